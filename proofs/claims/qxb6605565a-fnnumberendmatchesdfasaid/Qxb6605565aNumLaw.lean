import Derived.Test.Qxb6605565aDfa
namespace Go.Proofs.Qxb6605565a
open Go.RowKit

theorem cells_of {w : World} {b n : Nat} {zs : List Int} (h : Txt w b n zs) (hz : n ≤ zs.length) : Cells w b (zs.take n) := by
  intro k hk
  have hk' : k < n := by rw [List.length_take] at hk; omega
  have e : (zs.take n).getD k 0 = zs.getD k 0 := by simp [List.getD, List.getElem?_take_of_lt hk']
  rw [e]
  exact World.rowIs.cell h hk'
theorem take_len {n : Nat} {zs : List Int} (hz : n ≤ zs.length) : (zs.take n).length = n := by rw [List.length_take]; omega
set_option maxHeartbeats 400000 in
theorem zzNum_any (b n cap : Nat) (ts : List Int) (i : Nat) (w : World) (hn : ts.length = n) (hc : Cells w b ts) (hi : i < n) (hm : n ≤ 1048576) :
    Calls Try.prog 19 #[.slice (some ⟨b, 0, none⟩) n cap, .int .i64 i] w fun e w' => e = .returned (.int .i64 (nEnd ts i)) ∧ w = w' := by
  go_enter Try.func19, Try.ntmps19
  go_wp2_with fail
  refine (numberEnd_any b n cap ts i w hn hc hi hm).mono ?_
  rintro e w' ⟨rfl, rfl⟩
  clear hc hn
  go_wp2
  go_ret
  exact ⟨rfl, rfl⟩

set_option maxHeartbeats 1000000 in
theorem numByte_any (c : Int) (w : World) :
    Calls Try.prog 22 #[.int .u8 c] w fun e w' => e = .returned (.bool (Qn.isN c)) ∧ w = w' := by
  cases h0 : Qn.isD c
  · cases h1 : (c == 45)
    · cases h2 : (c == 43)
      · cases h3 : (c == 46)
        · cases h4 : (c == 101)
          · cases h5 : (c == 69)
            all_goals
              have HS : Hid (Qn.isN c = (c == 69)) := by show _ = _; simp only [Qn.isN, h0, h1, h2, h3, h4, Bool.false_or]
              rw [h5] at HS
              go_enter Try.func22, Try.ntmps22
              go_wp2_with (go_at_call 8; refine (isDig_q _ _).mono ?_; rintro e w' ⟨rfl, rfl⟩)
              go_ret
              exact ⟨ret_bool HS.out.symm, rfl⟩
          · have HS : Hid (Qn.isN c = true) := by show _ = _; simp [Qn.isN, h4]
            go_enter Try.func22, Try.ntmps22
            go_wp2_with (go_at_call 8; refine (isDig_q _ _).mono ?_; rintro e w' ⟨rfl, rfl⟩)
            go_ret
            exact ⟨ret_bool HS.out.symm, rfl⟩
        · have HS : Hid (Qn.isN c = true) := by show _ = _; simp [Qn.isN, h3]
          go_enter Try.func22, Try.ntmps22
          go_wp2_with (go_at_call 8; refine (isDig_q _ _).mono ?_; rintro e w' ⟨rfl, rfl⟩)
          go_ret
          exact ⟨ret_bool HS.out.symm, rfl⟩
      · have HS : Hid (Qn.isN c = true) := by show _ = _; simp [Qn.isN, h2]
        go_enter Try.func22, Try.ntmps22
        go_wp2_with (go_at_call 8; refine (isDig_q _ _).mono ?_; rintro e w' ⟨rfl, rfl⟩)
        go_ret
        exact ⟨ret_bool HS.out.symm, rfl⟩
    · have HS : Hid (Qn.isN c = true) := by show _ = _; simp [Qn.isN, h1]
      go_enter Try.func22, Try.ntmps22
      go_wp2_with (go_at_call 8; refine (isDig_q _ _).mono ?_; rintro e w' ⟨rfl, rfl⟩)
      go_ret
      exact ⟨ret_bool HS.out.symm, rfl⟩
  · have HS : Hid (Qn.isN c = true) := by show _ = _; simp [Qn.isN, h0]
    go_enter Try.func22, Try.ntmps22
    go_wp2_with (go_at_call 8; refine (isDig_q _ _).mono ?_; rintro e w' ⟨rfl, rfl⟩)
    go_ret
    exact ⟨ret_bool HS.out.symm, rfl⟩

set_option maxHeartbeats 1000000 in
theorem dfa_law (a0 : Option Addr) (len cap : Nat) (zs : List Int) (i : Nat) (w : World) (h0 : Came w a0 len cap zs) (hb : len ≤ 1048576) (hi : i < len) :
    Calls Try.prog 5 #[.slice a0 len cap, .int .i64 i] w fun e w' => e = .returned (.bool true) ∧ Below w.heap.size w w' := by
  have hz : len ≤ zs.length := by rcases h0 with ⟨_, h, _⟩ | ⟨x, _, h1, h2, _⟩ <;> omega
  have H0 : Hid _ := h0
  have hi' : (i : Int) < (len : Int) := by omega
  clear h0
  go_enter Try.func5, Try.ntmps5
  go_wp2_with (go_at_call 18; go_in)
  refine (clone_any a0 len cap zs w H0.out hb).mono ?_
  rintro e w1 ⟨t1, rfl, hC1, hb1⟩
  rcases hC1 with ⟨_, h⟩ | ⟨rfl, ht, _⟩
  · omega
  have HC : Hid (Cells w1 w.heap.size (zs.take len)) := cells_of ht hz
  have HL : Hid _ := take_len hz
  have HB : Hid _ := hb1
  clear ht hb1 H0
  go_wp2_with (first | (go_at_call 19; refine (zzNum_any w.heap.size len len (zs.take len) i w1 HL.out HC.out hi hb).mono ?_; rintro e w' ⟨rfl, rfl⟩) | (go_at_call 20; refine (numDFA_any w.heap.size len len (zs.take len) i w1 HL.out HC.out (Nat.le_of_lt hi) hb).mono ?_; rintro e w' ⟨rfl, rfl⟩))
  go_ret
  exact ⟨ret_bool (by simp), HB.out⟩
/-- what a number's end is good for -/
structure Good (ts : List Int) (i e : Nat) : Prop where
  gt : i < e
  le : e ≤ ts.length
  last : Qn.isD (ts.getD (e - 1) 0) = true
  all : ∀ k, i ≤ k → k < e → Qn.isN (ts.getD k 0) = true
  again : nEnd (ts.take e) i = (e : Int)
theorem drop_getD (ts : List Int) (i j : Nat) : (ts.drop i).getD j 0 = ts.getD (i + j) 0 := by
  simp [List.getD, List.getElem?_drop]
theorem end_cases (ts : List Int) (i : Nat) (hi : i < ts.length) : nEnd ts i = -1 ∨ ∃ e : Nat, nEnd ts i = (e : Int) ∧ Good ts i e := by
  unfold nEnd
  cases h : Qn.nl (ts.drop i) with
  | none => exact .inl rfl
  | some k =>
    obtain ⟨h1, h2, h3, h4, h5⟩ := Qn.nl_facts _ _ h
    rw [List.length_drop] at h2
    refine .inr ⟨i + k, rfl, by omega, by omega, ?_, ?_, ?_⟩
    · rw [drop_getD] at h3
      rw [show i + k - 1 = i + (k - 1) by omega]; exact h3
    · intro j hj1 hj2
      have := h4 (j - i) (by omega)
      rw [drop_getD, show i + (j - i) = j by omega] at this
      exact this
    · unfold nEnd
      rw [List.drop_take, show i + k - i = k by omega, h5]
      rfl
theorem take_take_len {ts : List Int} {e : Nat} (h : e ≤ ts.length) : (ts.take e).length = e := by rw [List.length_take]; omega
theorem cells_take {w : World} {b : Nat} {ts : List Int} (h : Cells w b ts) (e : Nat) : Cells w b (ts.take e) := by
  intro k hk
  rw [List.length_take] at hk
  have he : (ts.take e).getD k 0 = ts.getD k 0 := by simp [List.getD, List.getElem?_take_of_lt (show k < e by omega)]
  rw [he]
  exact h k (by omega)

set_option maxHeartbeats 2000000 in
theorem own_law (a0 : Option Addr) (len cap : Nat) (zs : List Int) (i : Nat) (w : World) (h0 : Came w a0 len cap zs) (hb : len ≤ 1048576) (hi : i < len) :
    Calls Try.prog 6 #[.slice a0 len cap, .int .i64 i] w fun e w' => e = .returned (.bool true) ∧ Below w.heap.size w w' := by
  have hz : len ≤ zs.length := by rcases h0 with ⟨_, h, _⟩ | ⟨x, _, h1, h2, _⟩ <;> omega
  have H0 : Hid _ := h0
  have hi' : (i : Int) < (len : Int) := by omega
  clear h0
  go_enter Try.func6, Try.ntmps6
  go_wp2_with (go_at_call 21; go_in)
  refine (clone_any a0 len cap zs w H0.out hb).mono ?_
  rintro e w1 ⟨t1, rfl, hC1, hb1⟩
  rcases hC1 with ⟨_, h⟩ | ⟨rfl, ht, _⟩
  · omega
  have HC : Hid (Cells w1 w.heap.size (zs.take len)) := cells_of ht hz
  have hl := take_len hz
  have HB : Hid _ := hb1
  clear ht hb1 H0
  obtain ⟨ts, hts⟩ : ∃ ts, ts = zs.take len := ⟨_, rfl⟩
  rw [← hts] at HC hl
  clear hts hz
  have HL : Hid (ts.length = len) := hl
  have hcase := end_cases ts i (by omega)
  clear hl
  go_wp2_with fail
  refine (zzNum_any w.heap.size len len ts i w1 HL.out HC.out hi hb).mono ?_
  rintro e w' ⟨rfl, rfl⟩
  rcases hcase with he | ⟨q, he, hg⟩
  · rw [he]
    clear he
    go_wp2
    go_ret
    exact ⟨rfl, HB.out⟩
  · rw [he]
    clear he
    have hgt := hg.gt
    have hle : q ≤ len := by rw [← HL.out]; exact hg.le
    have HG : Hid (Good ts i q) := hg
    have hlast : w1.cell? ⟨w.heap.size, q - 1, none⟩ = some (.int .u8 (ts.getD (q - 1) 0)) := HC.out (q - 1) (by rw [HL.out]; omega)
    have hD := hg.last
    generalize ts.getD (q - 1) 0 = d at hlast hD
    have hq1 : ((q : Int) == -1) = false := beq_eq_false_iff_ne.2 (by omega)
    have hgt' : ¬ (q : Int) ≤ (i : Int) := by omega
    have hle' : ¬ (len : Int) < (q : Int) := by omega
    clear hg
    go_wp2_with (go_at_call 8; refine (isDig_q _ _).mono ?_; rintro e w' ⟨rfl, rfl⟩)
    go_loop [6] (fun s => ∃ k : Nat, i ≤ k ∧ k ≤ q ∧ s = .int .i64 k) (fun s => q - (intOf s).toNat)
    case atStart => exact ⟨i, Nat.le_refl _, Nat.le_of_lt hgt, rfl⟩
    case round =>
      obtain ⟨k, hk1, hk2, rfl⟩ := hrel
      clear hlast hD
      by_cases hlt : k < q
      · have hcell : w1.cell? ⟨w.heap.size, k, none⟩ = some (.int .u8 (ts.getD k 0)) := HC.out k (by rw [HL.out]; omega)
        have hN := HG.out.all k hk1 hlt
        generalize ts.getD k 0 = c at hcell hN
        go_wp2_with (go_at_call 22; refine (numByte_any _ _).mono ?_; rintro e w' ⟨rfl, rfl⟩)
        go_round
        case rel => exact ⟨k + 1, by omega, by omega, by go_num⟩
        case measure => simp [intOf]; omega
      · go_wp2_with fail
        refine (zzNum_any w.heap.size q len (ts.take q) i w1 (take_take_len HG.out.le) (cells_take HC.out q) hgt (by omega)).mono ?_
        rintro e w' ⟨rfl, rfl⟩
        rw [HG.out.again]
        go_wp2
        go_ret
        exact ⟨ret_bool (by simp), HB.out⟩
end Go.Proofs.Qxb6605565a
