import Derived.Test.Qxb6605565aIntWalks
namespace Go.Proofs.Qxb6605565a
open Go.RowKit
set_option linter.unusedVariables false

def s7 : ByteArray := ⟨#[57, 50, 50, 51, 51, 55, 50, 48, 51, 54, 56, 53, 52, 55, 55, 53, 56, 48, 55]⟩
def s8 : ByteArray := ⟨#[57, 50, 50, 51, 51, 55, 50, 48, 51, 54, 56, 53, 52, 55, 55, 53, 56, 48, 56]⟩
theorem s7_at (k : Nat) (h : k < 19) (h' : k < s7.size) : ((s7[k]'h').toNat : Int) = Qi.lim7.getD k 0 := by
  have : ∀ k : Fin 19, ((s7[k.1]'(by have := k.2; exact this)).toNat : Int) = Qi.lim7.getD k.1 0 := by decide
  exact this ⟨k, h⟩
theorem s8_at (k : Nat) (h : k < 19) (h' : k < s8.size) : ((s8[k]'h').toNat : Int) = Qi.lim8.getD k 0 := by
  have : ∀ k : Fin 19, ((s8[k.1]'(by have := k.2; exact this)).toNat : Int) = Qi.lim8.getD k.1 0 := by decide
  exact this ⟨k, h⟩
theorem idx7 (k : Nat) (h : k < 19) (w : World) :
    (Instr.index 9 (.string ⟨#[57, 50, 50, 51, 51, 55, 50, 48, 51, 54, 56, 53, 52, 55, 55, 53, 56, 48, 55]⟩) (.int .i64 (k : Int))).run Try.prog w = .ok (.int .u8 (Qi.lim7.getD k 0)) w := by
  have h' : k < s7.size := h
  show (Instr.index 9 (.string s7) (.int .i64 (k : Int))).run Try.prog w = _
  rw [run_index_string w 9 s7 .i64 _ Try.underlying9, dif_pos ⟨by omega, by omega⟩]
  simp only [Int.toNat_natCast]
  rw [s7_at k h h']
theorem idx8 (k : Nat) (h : k < 19) (w : World) :
    (Instr.index 9 (.string ⟨#[57, 50, 50, 51, 51, 55, 50, 48, 51, 54, 56, 53, 52, 55, 55, 53, 56, 48, 56]⟩) (.int .i64 (k : Int))).run Try.prog w = .ok (.int .u8 (Qi.lim8.getD k 0)) w := by
  have h' : k < s8.size := h
  show (Instr.index 9 (.string s8) (.int .i64 (k : Int))).run Try.prog w = _
  rw [run_index_string w 9 s8 .i64 _ Try.underlying9, dif_pos ⟨by omega, by omega⟩]
  simp only [Int.toNat_natCast]
  rw [s8_at k h h']
theorem fits_lt {neg : Bool} {ds L : List Int} (hL : Qi.num L = Qi.lim neg) (dL : Qi.dig L = true) (hd : Qi.dig ds = true) (hl : ds.length = L.length) (k : Nat) (hk : k < ds.length) (ht : ds.take k = L.take k) (hc : ds.getD k 0 < L.getD k 0) : Qi.fits neg ds = true := by
  have := Qi.cmp_at ds L hl hd dL k hk ht hc
  unfold Qi.fits; rw [decide_eq_true_iff, ← hL]; omega
theorem fits_gt {neg : Bool} {ds L : List Int} (hL : Qi.num L = Qi.lim neg) (dL : Qi.dig L = true) (hd : Qi.dig ds = true) (hl : ds.length = L.length) (k : Nat) (hk : k < ds.length) (ht : ds.take k = L.take k) (hc : L.getD k 0 < ds.getD k 0) : Qi.fits neg ds = false := by
  have := Qi.cmp_at L ds hl.symm dL hd k (by omega) ht.symm hc
  unfold Qi.fits; rw [decide_eq_false_iff_not, ← hL]; omega
theorem fits_eq {neg : Bool} {ds L : List Int} (hL : Qi.num L = Qi.lim neg) (hl : ds.length = L.length) (k : Nat) (hk : ds.length ≤ k) (ht : ds.take k = L.take k) : Qi.fits neg ds = true := by
  have e : ds = L := by rw [List.take_of_length_le hk, List.take_of_length_le (by omega)] at ht; exact ht
  unfold Qi.fits; rw [decide_eq_true_iff, ← hL, e]; exact Nat.le_refl _
theorem lim7_l : Qi.num Qi.lim7 = Qi.lim false := Qi.lim7_num
theorem lim8_l : Qi.num Qi.lim8 = Qi.lim true := Qi.lim8_num

set_option maxHeartbeats 1000000 in
theorem fits_pos (b cap : Nat) (ts : List Int) (w : World) (hn : ts.length = 19) (hc : Cells w b ts) (hd : Qi.dig ts = true) :
    Calls Try.prog 11 #[.slice (some ⟨b, 0, none⟩) 19 cap, .int .i64 0, .bool false] w fun e w' => e = .returned (.bool (Qi.fits false ts)) ∧ w = w' := by
  have HN : Hid (ts.length = 19) := hn
  have HCs : Hid (Cells w b ts) := hc
  have HDS : Hid (Qi.dig ts = true) := hd
  clear hn hc hd
  go_enter Try.func11, Try.ntmps11
  go_wp2
  go_loop [9] (fun j => ∃ k : Nat, k ≤ 19 ∧ j = .int .i64 k ∧ Hid (ts.take k = Qi.lim7.take k)) (fun j => 19 - (intOf j).toNat)
  case atStart => exact ⟨0, Nat.zero_le _, rfl, rfl⟩
  case round =>
    obtain ⟨k, hk, rfl, HT⟩ := hrel
    by_cases hlt : k < 19
    · obtain ⟨c, hxd⟩ : ∃ c, c = ts.getD k 0 := ⟨_, rfl⟩
      obtain ⟨d, hyd⟩ : ∃ d, d = Qi.lim7.getD k 0 := ⟨_, rfl⟩
      have hxc : w.cell? ⟨b, k, none⟩ = some (.int .u8 c) := by rw [hxd]; exact HCs.out k (by rw [HN.out]; exact hlt)
      have hix := idx7 k hlt
      rw [← hyd] at hix
      have hlt' : (k : Int) < 19 := by omega
      by_cases h1 : c < d
      · have HF : Hid (Qi.fits false ts = true) := fits_lt lim7_l Qi.lim7_dig HDS.out (by rw [HN.out]; rfl) k (by rw [HN.out]; exact hlt) HT.out (by rw [← hxd, ← hyd]; exact h1)
        clear hxd hyd
        go_wp2
        go_ret
        exact ⟨ret_bool HF.out.symm, rfl⟩
      · by_cases h2 : d < c
        · have HF : Hid (Qi.fits false ts = false) := fits_gt lim7_l Qi.lim7_dig HDS.out (by rw [HN.out]; rfl) k (by rw [HN.out]; exact hlt) HT.out (by rw [← hxd, ← hyd]; exact h2)
          clear hxd hyd
          go_wp2
          go_ret
          exact ⟨ret_bool HF.out.symm, rfl⟩
        · have HT2 : Hid (ts.take (k + 1) = Qi.lim7.take (k + 1)) := Qi.take_succ_eq ts Qi.lim7 k (by rw [HN.out]; exact hlt) hlt HT.out (by rw [← hxd, ← hyd]; omega)
          clear hxd hyd
          go_wp2
          go_round
          case rel => exact ⟨k + 1, by omega, by go_num, HT2⟩
          case measure => simp [intOf]; omega
    · have HF : Hid (Qi.fits false ts = true) := fits_eq lim7_l (by rw [HN.out]; rfl) k (by rw [HN.out]; omega) HT.out
      have hlt' : ¬ (k : Int) < 19 := by omega
      go_wp2
      go_ret
      exact ⟨ret_bool HF.out.symm, rfl⟩
set_option maxHeartbeats 1000000 in
theorem fits_neg (b cap : Nat) (ts : List Int) (w : World) (hn : ts.length = 19) (hc : Cells w b (45 :: ts)) (hd : Qi.dig ts = true) :
    Calls Try.prog 11 #[.slice (some ⟨b, 0, none⟩) 20 cap, .int .i64 1, .bool true] w fun e w' => e = .returned (.bool (Qi.fits true ts)) ∧ w = w' := by
  have HN : Hid (ts.length = 19) := hn
  have HCs : Hid (∀ k, k < 19 → w.cell? ⟨b, 1 + k, none⟩ = some (.int .u8 (ts.getD k 0))) := fun k hk => by
    have := hc (k + 1) (by simp; omega)
    rw [Nat.add_comm 1 k]
    simpa using this
  have HDS : Hid (Qi.dig ts = true) := hd
  clear hn hc hd
  go_enter Try.func11, Try.ntmps11
  go_wp2
  go_loop [9] (fun j => ∃ k : Nat, k ≤ 19 ∧ j = .int .i64 k ∧ Hid (ts.take k = Qi.lim8.take k)) (fun j => 19 - (intOf j).toNat)
  case atStart => exact ⟨0, Nat.zero_le _, rfl, rfl⟩
  case round =>
    obtain ⟨k, hk, rfl, HT⟩ := hrel
    by_cases hlt : k < 19
    · obtain ⟨c, hxd⟩ : ∃ c, c = ts.getD k 0 := ⟨_, rfl⟩
      obtain ⟨d, hyd⟩ : ∃ d, d = Qi.lim8.getD k 0 := ⟨_, rfl⟩
      have hxc : w.cell? ⟨b, 1 + k, none⟩ = some (.int .u8 c) := by rw [hxd]; exact HCs.out k hlt
      have hix := idx8 k hlt
      rw [← hyd] at hix
      have hlt' : (k : Int) < 19 := by omega
      by_cases h1 : c < d
      · have HF : Hid (Qi.fits true ts = true) := fits_lt lim8_l Qi.lim8_dig HDS.out (by rw [HN.out]; rfl) k (by rw [HN.out]; exact hlt) HT.out (by rw [← hxd, ← hyd]; exact h1)
        clear hxd hyd
        go_wp2
        go_ret
        exact ⟨ret_bool HF.out.symm, rfl⟩
      · by_cases h2 : d < c
        · have HF : Hid (Qi.fits true ts = false) := fits_gt lim8_l Qi.lim8_dig HDS.out (by rw [HN.out]; rfl) k (by rw [HN.out]; exact hlt) HT.out (by rw [← hxd, ← hyd]; exact h2)
          clear hxd hyd
          go_wp2
          go_ret
          exact ⟨ret_bool HF.out.symm, rfl⟩
        · have HT2 : Hid (ts.take (k + 1) = Qi.lim8.take (k + 1)) := Qi.take_succ_eq ts Qi.lim8 k (by rw [HN.out]; exact hlt) hlt HT.out (by rw [← hxd, ← hyd]; omega)
          clear hxd hyd
          go_wp2
          go_round
          case rel => exact ⟨k + 1, by omega, by go_num, HT2⟩
          case measure => simp [intOf]; omega
    · have HF : Hid (Qi.fits true ts = true) := fits_eq lim8_l (by rw [HN.out]; rfl) k (by rw [HN.out]; omega) HT.out
      have hlt' : ¬ (k : Int) < 19 := by omega
      go_wp2
      go_ret
      exact ⟨ret_bool HF.out.symm, rfl⟩
set_option maxHeartbeats 1000000 in
theorem fits_few (a : Option Addr) (n cap st : Nat) (neg : Bool) (w : World) (hs : st ≤ n) (h : n < 19 + st) (hm : n ≤ 1048576) :
    Calls Try.prog 11 #[.slice a n cap, .int .i64 st, .bool neg] w fun e w' => e = .returned (.bool true) ∧ w = w' := by
  have h' : (n : Int) - (st : Int) < 19 := by omega
  go_enter Try.func11, Try.ntmps11
  go_wp2
  go_ret
  exact ⟨rfl, rfl⟩
set_option maxHeartbeats 1000000 in
theorem fits_many (a : Option Addr) (n cap st : Nat) (neg : Bool) (w : World) (h : 19 + st < n) (hm : n ≤ 1048576) :
    Calls Try.prog 11 #[.slice a n cap, .int .i64 st, .bool neg] w fun e w' => e = .returned (.bool false) ∧ w = w' := by
  have h' : (19 : Int) < (n : Int) - (st : Int) := by omega
  go_enter Try.func11, Try.ntmps11
  go_wp2
  go_ret
  exact ⟨rfl, rfl⟩
end Go.Proofs.Qxb6605565a
