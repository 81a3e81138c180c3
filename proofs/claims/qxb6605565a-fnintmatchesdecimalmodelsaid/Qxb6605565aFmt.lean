import Derived.Test.Qxb6605565aFits
namespace Go.Proofs.Qxb6605565a
open Go.RowKit
set_option linter.unusedVariables false

set_option maxHeartbeats 1000000 in
theorem fmt_zero (w : World) :
    Calls Try.prog 12 #[.int .i64 0] w fun e w' => e = .returned (.slice (some ⟨w.heap.size, 0, none⟩) 1 1) ∧ w' = w.alloc (.cells #[.int .u8 48] 5) := by
  go_enter Try.func12, Try.ntmps12
  go_wp2
  go_ret
  exact ⟨rfl, rfl⟩

/-- digit number i of U from the right -/
def dgt (U i : Nat) : Int := 48 + ((U / 10 ^ i % 10 : Nat) : Int)
/-- the array when k digits are written -/
def bufAt (U k j : Nat) : Value := .int .u8 (if 20 - k ≤ j then dgt U (19 - j) else 0)
theorem buf0 (U j : Nat) (hj : j < 20) (c : Array Value) (hc : c = Array.replicate 20 (.int .u8 0)) : c[j]? = some (bufAt U 0 j) := by
  subst hc
  unfold bufAt
  rw [if_neg (by omega)]
  simp [hj]
theorem buf_step (U k p : Nat) (hp : p + 1 + k = 20) (u : Nat) (hu : u = U / 10 ^ k) (j : Nat) :
    (if j = p then (Value.int .u8 (48 + (u : Int) % 10)) else bufAt U k j) = bufAt U (k + 1) j := by
  unfold bufAt dgt
  by_cases h : j = p
  · subst h
    rw [if_pos rfl, if_pos (by omega), hu, show 19 - j = k by omega]
    congr 1
  · rw [if_neg h]
    by_cases h2 : 20 - k ≤ j
    · rw [if_pos h2, if_pos (by omega)]
    · rw [if_neg h2, if_neg (by omega)]
theorem div_next (U k u : Nat) (hu : u = U / 10 ^ k) : u / 10 = U / 10 ^ (k + 1) := by
  rw [hu, Nat.div_div_eq_div_mul, ← Nat.pow_succ]
theorem div_pos' (U K k : Nat) (hlo : 10 ^ (K - 1) ≤ U) (hk : k < K) : 0 < U / 10 ^ k := by
  apply Nat.div_pos
  · exact Nat.le_trans (Nat.pow_le_pow_right (by omega) (by omega)) hlo
  · exact Nat.pow_pos (by omega)
theorem div_done (U K : Nat) (hhi : U < 10 ^ K) : U / 10 ^ K = 0 := Nat.div_eq_of_lt hhi
/-- the copy when m bytes are written -/
def outAt (f : Nat → Int) (m j : Nat) : Value := .int .u8 (if j < m then f j else 0)
theorem out_step (f : Nat → Int) (m j : Nat) : (if j = m then (Value.int .u8 (f m)) else outAt f m j) = outAt f (m + 1) j := by
  unfold outAt
  by_cases h : j = m
  · subst h; simp
  · rw [if_neg h]
    by_cases h2 : j < m
    · rw [if_pos h2, if_pos (by omega)]
    · rw [if_neg h2, if_neg (by omega)]

/-- the bytes behind a sign -/
def sgn (U K j : Nat) : Int := if j = 0 then 45 else dgt U (K - j)
set_option maxHeartbeats 2000000 in
theorem fmt_pos (U K : Nat) (w : World) (h1 : 1 ≤ K) (h19 : K ≤ 19) (hlo : 10 ^ (K - 1) ≤ U) (hhi : U < 10 ^ K) (hb : (U : Int) ≤ 9223372036854775807) (hU : 1 ≤ U) :
    Calls Try.prog 12 #[.int .i64 U] w fun e w' => ∃ g, e = .returned (.slice (some ⟨g, 0, none⟩) K K) ∧ w'.rowIs g 5 K (fun j => .int .u8 (dgt U (K - 1 - j))) ∧ Below w.heap.size w w' := by
  have hz : ((U : Int) == 0) = false := beq_eq_false_iff_ne.2 (by omega)
  have hng : ¬ (U : Int) < 0 := by omega
  have HLO : Hid _ := hlo
  have HHI : Hid _ := hhi
  clear hlo hhi
  go_enter Try.func12, Try.ntmps12
  go_wp2
  go_loopw [4, 6] (fun s4 s6 wr => ∃ k p u : Nat, p + k = 20 ∧ k ≤ K ∧ s6 = .int .i64 p ∧ s4 = .int .u64 u ∧ Hid (u = U / 10 ^ k) ∧ u ≤ U ∧ wr.rowIs w.heap.size 40 20 (bufAt U k) ∧ Below w.heap.size w wr ∧ Hid (w.heap.size < wr.heap.size)) (fun _ s6 _ => (intOf s6).toNat)
  case atStart => exact ⟨0, 20, U, rfl, by omega, rfl, rfl, (Nat.div_one U).symm, Nat.le_refl _, World.rowIs_alloc w _ 40 _ (fun j hj => buf0 U j hj _ rfl), (Below.refl _ _).alloc (Nat.le_refl _) _, by show _ < (w.heap.push _).size; simp⟩
  case round =>
    obtain ⟨k, p, u, hpk, hk, rfl, rfl, HU, huU, hrow, hbel, HS⟩ := hrel
    by_cases hlt : k < K
    · have hu : 0 < u := by rw [HU.out]; exact div_pos' U K k HLO.out hlt
      have hu' : (0 : Int) < (u : Int) := by omega
      have hc := hrow.cell (i := p - 1) (by omega)
      have hf := hrow.frozen (p - 1)
      have hp1 : 1 ≤ p := by omega
      go_wp2
      go_roundw
      case rel => exact ⟨k + 1, p - 1, u / 10, by omega, by omega, by go_num, by go_num, div_next U k u HU.out, by omega, (hrow.set (p - 1) _).congr (fun j _ => buf_step U k (p - 1) (by omega) u HU.out j), hbel.setCell (Nat.le_refl _) _, by show _ < (wr.setCell _ _).heap.size; rw [World.setCell]; simpa using HS.out⟩
      case measure => simp [intOf]; omega
    · obtain rfl : k = K := by omega
      have hu0 : u = 0 := by rw [HU.out]; exact div_done U k HHI.out
      subst hu0
      have hmk := run_make_row' (P := Try.prog) 22 5 (.int .u8 0) 1 Try.underlying22 info5 rfl .i64 .i64 k (by omega) (by omega)
      have e : ((k : Nat) : Int) = 20 - (p : Int) := by omega
      rw [e] at hmk
      clear e
      go_wp2
      obtain ⟨wo, rfl⟩ : ∃ wo : World, wo = wr := ⟨_, rfl⟩
      have HSRC : Hid (∀ m, m < k → bufAt U k (p + m) = .int .u8 (dgt U (k - 1 - m))) := fun m hm => by
        unfold bufAt; rw [if_pos (by omega), show 19 - (p + m) = k - 1 - m by omega]
      have HSZ : Hid (w.heap.size < wo.heap.size) := HS
      have hne : wo.heap.size ≠ w.heap.size := Nat.ne_of_gt HS.out
      clear hmk
      go_loopw [8] (fun s8 wx => ∃ m : Nat, m ≤ k ∧ s8 = .int .i64 ((p : Int) + (m : Int)) ∧ wx.rowIs wo.heap.size 5 k (outAt (fun j => dgt U (k - 1 - j)) m) ∧ wx.rowIs w.heap.size 40 20 (bufAt U k) ∧ Below w.heap.size w wx) (fun s8 _ => (20 - intOf s8).toNat)
      case atStart => exact ⟨0, Nat.zero_le _, by simp, (World.rowIs_made wo (.int .u8 0) k 5).congr (fun i _ => by unfold outAt; rw [if_neg (by omega)]), hrow.alloc _, hbel.alloc (Nat.le_of_lt HSZ.out) _⟩
      case round =>
        obtain ⟨m, hmk, rfl, hout, hsr, hbl⟩ := hrel
        clear hrow hbel
        by_cases hml : m < k
        · have hc : wr.cell? ⟨w.heap.size, p + m, none⟩ = some (.int .u8 (dgt U (k - 1 - m))) := by
            rw [← HSRC.out m hml]; exact hsr.cell (i := p + m) (by omega)
          have hd := hout.cell (i := m) hml
          have hf := hout.frozen m
          have h20 : (p : Int) + (m : Int) < 20 := by omega
          go_wp2
          go_roundw
          case rel => exact ⟨m + 1, by omega, by go_num, (hout.set m _).congr (fun j _ => out_step _ m j), hsr.setOther (fun h => hne h.symm) _, hbl.setCell (Nat.le_of_lt HSZ.out) _⟩
          case measure => simp [intOf]; omega
        · obtain rfl : m = k := by omega
          have h20 : ¬ (p : Int) + (m : Int) < 20 := by omega
          go_wp2
          go_ret
          exact ⟨wo.heap.size, rfl, hout.congr (fun j hj => by unfold outAt; rw [if_pos hj]), hbl⟩
set_option maxHeartbeats 2000000 in
theorem fmt_neg (U K : Nat) (w : World) (h1 : 1 ≤ K) (h19 : K ≤ 19) (hlo : 10 ^ (K - 1) ≤ U) (hhi : U < 10 ^ K) (hb : (U : Int) - 1 ≤ 9223372036854775807) (hU : 1 ≤ U) :
    Calls Try.prog 12 #[.int .i64 (-(U : Int))] w fun e w' => ∃ g, e = .returned (.slice (some ⟨g, 0, none⟩) (K + 1) (K + 1)) ∧ w'.rowIs g 5 (K + 1) (fun j => .int .u8 (sgn U K j)) ∧ Below w.heap.size w w' := by
  have hz : (-(U : Int) == 0) = false := beq_eq_false_iff_ne.2 (by omega)
  have hng : -(U : Int) < 0 := by omega
  have HLO : Hid _ := hlo
  have HHI : Hid _ := hhi
  clear hlo hhi
  go_enter Try.func12, Try.ntmps12
  go_wp2
  go_loopw [4, 6] (fun s4 s6 wr => ∃ k p u : Nat, p + k = 20 ∧ k ≤ K ∧ s6 = .int .i64 p ∧ s4 = .int .u64 u ∧ Hid (u = U / 10 ^ k) ∧ u ≤ U ∧ wr.rowIs w.heap.size 40 20 (bufAt U k) ∧ Below w.heap.size w wr ∧ Hid (w.heap.size < wr.heap.size)) (fun _ s6 _ => (intOf s6).toNat)
  case atStart => exact ⟨0, 20, U, rfl, by omega, rfl, by go_num, (Nat.div_one U).symm, Nat.le_refl _, World.rowIs_alloc w _ 40 _ (fun j hj => buf0 U j hj _ rfl), (Below.refl _ _).alloc (Nat.le_refl _) _, by show _ < (w.heap.push _).size; simp⟩
  case round =>
    obtain ⟨k, p, u, hpk, hk, rfl, rfl, HU, huU, hrow, hbel, HS⟩ := hrel
    by_cases hlt : k < K
    · have hu : 0 < u := by rw [HU.out]; exact div_pos' U K k HLO.out hlt
      have hu' : (0 : Int) < (u : Int) := by omega
      have hc := hrow.cell (i := p - 1) (by omega)
      have hf := hrow.frozen (p - 1)
      have hp1 : 1 ≤ p := by omega
      go_wp2
      go_roundw
      case rel => exact ⟨k + 1, p - 1, u / 10, by omega, by omega, by go_num, by go_num, div_next U k u HU.out, by omega, (hrow.set (p - 1) _).congr (fun j _ => buf_step U k (p - 1) (by omega) u HU.out j), hbel.setCell (Nat.le_refl _) _, by show _ < (wr.setCell _ _).heap.size; rw [World.setCell]; simpa using HS.out⟩
      case measure => simp [intOf]; omega
    · obtain rfl : k = K := by omega
      have hu0 : u = 0 := by rw [HU.out]; exact div_done U k HHI.out
      subst hu0
      have hc := hrow.cell (i := p - 1) (by omega)
      have hf := hrow.frozen (p - 1)
      have hp1 : 1 ≤ p := by omega
      have hmk := run_make_row' (P := Try.prog) 22 5 (.int .u8 0) 1 Try.underlying22 info5 rfl .i64 .i64 (k + 1) (by omega) (by omega)
      have e : ((k + 1 : Nat) : Int) = 20 - ((p : Int) - 1) := by omega
      rw [e] at hmk
      clear e
      go_wp2
      obtain ⟨wo, rfl⟩ : ∃ wo : World, wo = wr := ⟨_, rfl⟩
      have hrow2 := hrow.set (p - 1) (.int .u8 45)
      have HSRC : Hid (∀ m, m < k + 1 → (if p - 1 + m = p - 1 then (Value.int .u8 45) else bufAt U k (p - 1 + m)) = .int .u8 (sgn U k m)) := fun m hm => by
        unfold sgn
        by_cases h0 : m = 0
        · subst h0; simp
        · rw [if_neg (by omega), if_neg h0]
          unfold bufAt; rw [if_pos (by omega), show 19 - (p - 1 + m) = k - m by omega]
      have HSZ : Hid (w.heap.size < wo.heap.size) := HS
      have hne : wo.heap.size ≠ w.heap.size := Nat.ne_of_gt HS.out
      have hsz2 : Hid ((wo.setCell ⟨w.heap.size, p - 1, none⟩ (.int .u8 45)).heap.size = wo.heap.size) := by show _ = _; simp [World.setCell]
      clear hmk
      go_loopw [8] (fun s8 wx => ∃ m : Nat, m ≤ k + 1 ∧ s8 = .int .i64 ((p : Int) - 1 + (m : Int)) ∧ wx.rowIs wo.heap.size 5 (k + 1) (outAt (sgn U k) m) ∧ wx.rowIs w.heap.size 40 20 (fun j => if j = p - 1 then .int .u8 45 else bufAt U k j) ∧ Below w.heap.size w wx) (fun s8 _ => (20 - intOf s8).toNat)
      case atStart =>
        refine ⟨0, Nat.zero_le _, by simp, ?_, hrow2.alloc _, (hbel.setCell (Nat.le_refl _) _).alloc (by rw [hsz2.out]; exact Nat.le_of_lt HSZ.out) _⟩
        have := World.rowIs_made (wo.setCell ⟨w.heap.size, p - 1, none⟩ (.int .u8 45)) (.int .u8 0) (k + 1) 5
        rw [hsz2.out] at this
        exact this.congr (fun i _ => by unfold outAt; rw [if_neg (by omega)])
      case round =>
        obtain ⟨m, hmk, rfl, hout, hsr, hbl⟩ := hrel
        clear hrow hbel hrow2 hc hf
        by_cases hml : m < k + 1
        · have hc : wr.cell? ⟨w.heap.size, p - 1 + m, none⟩ = some (.int .u8 (sgn U k m)) := by
            rw [← HSRC.out m hml]; exact hsr.cell (i := p - 1 + m) (by omega)
          have hd := hout.cell (i := m) hml
          have hf := hout.frozen m
          have h20 : (p : Int) - 1 + (m : Int) < 20 := by omega
          go_wp2
          go_roundw
          case rel => exact ⟨m + 1, by omega, by go_num, (hout.set m _).congr (fun j _ => out_step _ m j), hsr.setOther (fun h => hne h.symm) _, hbl.setCell (Nat.le_of_lt HSZ.out) _⟩
          case measure => simp [intOf]; omega
        · obtain rfl : m = k + 1 := by omega
          have h20 : ¬ (p : Int) - 1 + ((k + 1 : Nat) : Int) < 20 := by omega
          go_wp2
          go_ret
          exact ⟨wo.heap.size, rfl, hout.congr (fun j hj => by unfold outAt; rw [if_pos hj]), hbl⟩
set_option maxHeartbeats 1000000 in
theorem eq_true (ga gb n ca cb : Nat) (f : Nat → Int) (w : World) (hm : n ≤ 1048576) (ha : ∀ j, j < n → w.cell? ⟨ga, j, none⟩ = some (.int .u8 (f j))) (hb : ∀ j, j < n → w.cell? ⟨gb, j, none⟩ = some (.int .u8 (f j))) :
    Calls Try.prog 13 #[.slice (some ⟨ga, 0, none⟩) n ca, .slice (some ⟨gb, 0, none⟩) n cb] w fun e w' => e = .returned (.bool true) ∧ ∃ m, w' = w.drewN m := by
  have HA : Hid _ := ha
  have HB : Hid _ := hb
  clear ha hb
  go_enter Try.func13, Try.ntmps13
  go_wp2
  go_loopw [5] (fun s5 wr => ∃ k m : Nat, k ≤ n ∧ s5 = .int .i64 k ∧ wr = w.drewN m) (fun s5 _ => n - (intOf s5).toNat)
  case atStart => exact ⟨0, 0, Nat.zero_le _, rfl, rfl⟩
  case round =>
    obtain ⟨k, m, hk, rfl, rfl⟩ := hrel
    by_cases hlt : k < n
    · have c1 := HA.out k hlt
      have c2 := HB.out k hlt
      have hlt' : (k : Int) < (n : Int) := by omega
      generalize f k = c at *
      go_wp2
      go_quiet (fail)
      go_wp2
      go_roundw
      case rel => exact ⟨k + 1, m + nq, by omega, by go_num, rfl⟩
      case measure => simp [intOf]; omega
    · have hlt' : ¬ (k : Int) < (n : Int) := by omega
      go_wp2
      go_ret
      exact ⟨rfl, m, rfl⟩
end Go.Proofs.Qxb6605565a
