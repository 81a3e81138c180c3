import Derived.Test.Qxb6605565aFmt
namespace Go.Proofs.Qxb6605565a
open Go.RowKit
set_option linter.unusedVariables false

/-- no leading zero ahead of a further digit -/
def NoLead (ds : List Int) : Prop := ds.length = 1 ∨ ds.getD 0 0 ≠ 48
theorem first_of {ds : List Int} (h1 : 1 ≤ ds.length) : ∃ c t, ds = c :: t ∧ ds.getD 0 0 = c := by
  cases ds with
  | nil => simp at h1
  | cons c t => exact ⟨c, t, rfl, rfl⟩
theorem fits_long' {neg : Bool} {ds : List Int} (hd : Qi.dig ds = true) (hn : NoLead ds) (h1 : 1 ≤ ds.length) (hl : 19 < ds.length) : Qi.fits neg ds = false := by
  obtain ⟨c, t, rfl, hc⟩ := first_of h1
  have h48 : c ≠ 48 := by rcases hn with h | h; · omega
                          · rw [hc] at h; exact h
  exact Qi.fits_long neg c t hd h48 hl
theorem fits_len {neg : Bool} {ds : List Int} (hd : Qi.dig ds = true) (hn : NoLead ds) (h1 : 1 ≤ ds.length) (hf : Qi.fits neg ds = true) : ds.length ≤ 19 := by
  rcases Nat.lt_or_ge 19 ds.length with h | h
  · rw [fits_long' hd hn h1 h] at hf; cases hf
  · exact h
theorem num_zero {ds : List Int} (hd : Qi.dig ds = true) (hn : NoLead ds) (h1 : 1 ≤ ds.length) (h0 : Qi.num ds = 0) : ds = [48] := by
  obtain ⟨c, t, rfl, hc⟩ := first_of h1
  by_cases h48 : c = 48
  · subst h48
    rcases hn with h | h
    · simp at h; rw [h]
    · exact absurd hc h
  · have := Qi.num_first c t hd h48
    have hp : 0 < 10 ^ t.length := Nat.pow_pos (by omega)
    omega
theorem num_ge {ds : List Int} (hd : Qi.dig ds = true) (hn : NoLead ds) (h1 : 1 ≤ ds.length) (h0 : Qi.num ds ≠ 0) : 10 ^ (ds.length - 1) ≤ Qi.num ds ∧ ds.getD 0 0 ≠ 48 := by
  obtain ⟨c, t, rfl, hc⟩ := first_of h1
  have h48 : c ≠ 48 := by
    intro h
    subst h
    rcases hn with h | h
    · simp at h; subst h; exact h0 (by decide)
    · exact h hc
  exact ⟨by simpa using Qi.num_first c t hd h48, by rw [hc]; exact h48⟩
/-! ### The callees, at a token without a leading zero -/
section
variable {w : World} {b n : Nat} {ts : List Int}
theorem intY_pos (cap : Nat) (hn : ts.length = n) (hc : Cells w b ts) (h1 : 1 ≤ n) (hm : n ≤ 1048576) (h45 : ts.getD 0 0 ≠ 45) (hd : Qi.dig ts = true) (hl : NoLead ts) :
    Calls Try.prog 10 #[.slice (some ⟨b, 0, none⟩) n cap] w fun e w' => e = .returned (.tuple #[.int .i64 (valOf false ts), .bool (Qi.fits false ts)]) ∧ w = w' := by
  by_cases h : n ≤ 19
  · exact int_pos b n cap ts w hn hc h1 h h45 hd
  · have hf : Qi.fits false ts = false := fits_long' hd hl (by omega) (by omega)
    rw [hf, val_no hf]
    exact int_pos_long b n cap ts w hn hc h1 h45 (by omega) hm
theorem intY_neg (hn : ts.length = n) (hc : Cells w b (45 :: ts)) (h1 : 1 ≤ n) (hm : n ≤ 1048576) (hd : Qi.dig ts = true) (hl : NoLead ts) :
    Calls Try.prog 10 #[.slice (some ⟨b, 0, none⟩) (n + 1) (n + 1)] w fun e w' => e = .returned (.tuple #[.int .i64 (valOf true ts), .bool (Qi.fits true ts)]) ∧ w = w' := by
  by_cases h : n ≤ 19
  · exact int_neg b n ts w hn hc h1 h hd
  · have hf : Qi.fits true ts = false := fits_long' hd hl (by omega) (by omega)
    rw [hf, val_no hf]
    exact int_neg_long b n ts w hn hc h1 (by omega) hm
theorem intN_pos (cap : Nat) (hn : ts.length = n) (hc : Cells w b ts) (h1 : 1 ≤ n) (hm : n ≤ 1048576) (h45 : ts.getD 0 0 ≠ 45) (hd : Qi.dig ts = false) :
    Calls Try.prog 10 #[.slice (some ⟨b, 0, none⟩) n cap] w fun e w' => e = .returned (.tuple #[.int .i64 0, .bool false]) ∧ w = w' := by
  by_cases h : n ≤ 19
  · exact int_pos_bad b n cap ts w hn hc h1 h45 h hd
  · exact int_pos_long b n cap ts w hn hc h1 h45 (by omega) hm
theorem intN_neg (hn : ts.length = n) (hc : Cells w b (45 :: ts)) (h1 : 1 ≤ n) (hm : n ≤ 1048576) (hd : Qi.dig ts = false) :
    Calls Try.prog 10 #[.slice (some ⟨b, 0, none⟩) (n + 1) (n + 1)] w fun e w' => e = .returned (.tuple #[.int .i64 0, .bool false]) ∧ w = w' := by
  by_cases h : n ≤ 19
  · exact int_neg_bad b n ts w hn hc h1 h hd
  · exact int_neg_long b n ts w hn hc h1 (by omega) hm
theorem fitsY_pos (cap : Nat) (hn : ts.length = n) (hc : Cells w b ts) (h1 : 1 ≤ n) (hm : n ≤ 1048576) (hd : Qi.dig ts = true) (hl : NoLead ts) :
    Calls Try.prog 11 #[.slice (some ⟨b, 0, none⟩) n cap, .int .i64 0, .bool false] w fun e w' => e = .returned (.bool (Qi.fits false ts)) ∧ w = w' := by
  by_cases h : n < 19
  · rw [Qi.fits_short false ts hd (by omega)]
    exact fits_few _ n cap 0 false w (by omega) (by omega) hm
  · by_cases h2 : 19 < n
    · rw [fits_long' hd hl (by omega) (by omega)]
      exact fits_many _ n cap 0 false w (by omega) hm
    · obtain rfl : n = 19 := by omega
      exact fits_pos b cap ts w hn hc hd
theorem fitsY_neg (hn : ts.length = n) (hc : Cells w b (45 :: ts)) (h1 : 1 ≤ n) (hm : n + 1 ≤ 1048576) (hd : Qi.dig ts = true) (hl : NoLead ts) :
    Calls Try.prog 11 #[.slice (some ⟨b, 0, none⟩) (n + 1) (n + 1), .int .i64 1, .bool true] w fun e w' => e = .returned (.bool (Qi.fits true ts)) ∧ w = w' := by
  by_cases h : n < 19
  · rw [Qi.fits_short true ts hd (by omega)]
    exact fits_few _ (n + 1) (n + 1) 1 true w (by omega) (by omega) hm
  · by_cases h2 : 19 < n
    · rw [fits_long' hd hl (by omega) (by omega)]
      exact fits_many _ (n + 1) (n + 1) 1 true w (by omega) hm
    · obtain rfl : n = 19 := by omega
      exact fits_neg b 20 ts w hn hc hd
end
theorem lim_pos {ds : List Int} (hf : Qi.fits false ds = true) : (Qi.num ds : Int) ≤ 9223372036854775807 := by
  have h : Qi.num ds ≤ 9223372036854775807 := of_decide_eq_true hf
  omega
theorem lim_neg {ds : List Int} (hf : Qi.fits true ds = true) : (Qi.num ds : Int) - 1 ≤ 9223372036854775807 := by
  have h : Qi.num ds ≤ 9223372036854775808 := of_decide_eq_true hf
  omega
theorem getD_take {zs : List Int} {n k : Nat} (h : k < n) : (zs.take n).getD k 0 = zs.getD k 0 := by simp [List.getD, List.getElem?_take_of_lt h]
theorem cells_of' {w : World} {b n : Nat} {zs : List Int} (h : Txt w b n zs) (hz : n ≤ zs.length) : Cells w b (zs.take n) := by
  intro k hk
  have hk' : k < n := by rw [List.length_take] at hk; omega
  rw [getD_take hk']
  exact World.rowIs.cell h hk'
theorem cells_below {w w' : World} {b : Nat} {ts : List Int} {B : Nat} (h : Cells w b ts) (hb : Below B w w') (hlt : b < B) : Cells w' b ts :=
  fun k hk => (hb.cell (p := ⟨b, k, none⟩) hlt).trans (h k hk)
theorem below_drewN' {B : Nat} {w w' : World} (h : Below B w w') : ∀ n, Below B w (w'.drewN n)
  | 0 => h
  | n + 1 => (below_drewN' h n).drew

set_option maxHeartbeats 400000 in
theorem zz_any (a : Option Addr) (len cap : Nat) (w : World) (hm : len ≤ 1048576) :
    Calls Try.prog 7 #[.slice a len cap] w fun e w' => e = .returned (.bool true) ∧ w = w' := by
  go_enter Try.func7, Try.ntmps7
  go_wp2
  go_ret
  exact ⟨rfl, rfl⟩
set_option maxHeartbeats 2000000 in
theorem law_pos (b off len cap : Nat) (zs ts : List Int) (w : World) (hts : ts = zs.take len) (hl : len ≤ cap) (hz : zs.length = cap) (h1 : 1 ≤ len) (hm : len ≤ 1048576)
    (hcell : ∀ j, j < zs.length → w.cell? ⟨b, off + j, none⟩ = some (.int .u8 (zs.getD j 0))) (h45 : ts.getD 0 0 ≠ 45) :
    Calls Try.prog 3 #[.slice (some ⟨b, off, none⟩) len cap] w fun e w' => e = .returned (.bool true) ∧ Below w.heap.size w w' := by
  have HLN : Hid (ts.length = len) := by rw [hts, List.length_take]; show _ = _; omega
  have HCL : Hid (∀ j, j < len → w.cell? ⟨b, off + j, none⟩ = some (.int .u8 (ts.getD j 0))) := fun j hj => by
    rw [hts, getD_take hj]; exact hcell j (by omega)
  have HCM : Hid (Came w (some ⟨b, off, none⟩) len cap zs) := .inr ⟨_, rfl, hl, hz, fun i hi => by rw [Go.WideShapes.add_plain]; exact hcell i hi⟩
  have HTS : Hid (ts = zs.take len) := hts
  have HZ : Hid (len ≤ zs.length) := by show _ ≤ _; omega
  have H45 : Hid (ts.getD 0 0 ≠ 45) := h45
  obtain ⟨c0, hcd⟩ : ∃ c, c = ts.getD 0 0 := ⟨_, rfl⟩
  have hc0 : w.cell? ⟨b, off, none⟩ = some (.int .u8 c0) := by rw [hcd]; exact HCL.out 0 h1
  have hb : (c0 == 45) = false := beq_eq_false_iff_ne.2 (by rw [hcd]; exact h45)
  have HC0 : Hid (c0 = ts.getD 0 0) := hcd
  have hz0 : ((len : Int) == 0) = false := beq_eq_false_iff_ne.2 (by omega)
  have hz1 : ((0 : Int) == (len : Int)) = false := beq_eq_false_iff_ne.2 (by omega)
  have h1' : (0 : Int) < (len : Int) := by omega
  clear hts hz hcell h45 hcd
  go_enter Try.func3, Try.ntmps3
  go_wp2_with (go_at_call 7; refine (zz_any _ _ _ _ hm).mono ?_; rintro e w' ⟨rfl, rfl⟩)
  go_loop [5, 6] (fun s5 s6 => ∃ m : Nat, m ≤ len ∧ s6 = .int .i64 m ∧ s5 = .bool (gTo ts m)) (fun _ s6 => len - (intOf s6).toNat)
  case atStart => exact ⟨0, Nat.zero_le _, rfl, rfl⟩
  case round =>
    obtain ⟨m, hml, rfl, rfl⟩ := hrel
    by_cases hlt : m < len
    · obtain ⟨c, hxd⟩ : ∃ c, c = ts.getD m 0 := ⟨_, rfl⟩
      have hxc : w.cell? ⟨b, off + m, none⟩ = some (.int .u8 c) := by rw [hxd]; exact HCL.out m hlt
      have HG : Hid (gTo ts (m + 1) = (gTo ts m && Qn.isD c)) := by rw [hxd]; exact gTo_succ ts m (by rw [HLN.out]; exact hlt)
      have hlt' : (m : Int) < (len : Int) := by omega
      clear hxd
      cases hg : Qn.isD c with
      | true =>
        rw [hg, Bool.and_true] at HG
        go_wp2_with (go_at_call 8; refine (isDig_r _ _).mono ?_; rintro e w' ⟨rfl, rfl⟩)
        go_round
        case rel => exact ⟨m + 1, by omega, by go_num, by rw [HG.out]⟩
        case measure => simp [intOf]; omega
      | false =>
        rw [hg, Bool.and_false] at HG
        go_wp2_with (go_at_call 8; refine (isDig_r _ _).mono ?_; rintro e w' ⟨rfl, rfl⟩)
        go_round
        case rel => exact ⟨m + 1, by omega, by go_num, by rw [HG.out]⟩
        case measure => simp [intOf]; omega
    · have hD := gTo_all ts m (by rw [HLN.out]; omega)
      rw [hD]
      have hlt' : ¬ (m : Int) < (len : Int) := by omega
      clear hD
      cases hdig : Qi.dig ts with
      | false =>
        have HDG : Hid _ := hdig
        clear hdig
        go_wp2_with fail
        refine (clone_any (some ⟨b, off, none⟩) len cap zs w HCM.out hm).mono ?_
        rintro e w1 ⟨t1, rfl, hC1, hb1⟩
        rcases hC1 with ⟨_, h⟩ | ⟨rfl, ht, hsz⟩
        · omega
        have HCC : Hid (Cells w1 w.heap.size ts) := by rw [HTS.out]; exact cells_of' ht HZ.out
        have HB1 : Hid _ := hb1
        clear ht hb1
        go_wp2_with (go_at_call 10; refine (intN_pos len HLN.out HCC.out h1 hm H45.out HDG.out).mono ?_; rintro e w' ⟨rfl, rfl⟩)
        go_ret
        exact ⟨rfl, HB1.out⟩
      | true =>
        have HDG : Hid _ := hdig
        clear hdig
        by_cases hlead : 1 < len ∧ c0 = 48
        · obtain ⟨hl1, rfl⟩ := hlead
          have hl1' : (1 : Int) < (len : Int) := by omega
          go_wp2
          go_ret
          exact ⟨rfl, Below.refl _ _⟩
        · have HNL : Hid (NoLead ts) := by
            by_cases h : len = 1
            · exact .inl (by rw [HLN.out]; exact h)
            · exact .inr (by rw [← HC0.out]; intro h2; exact hlead ⟨by omega, h2⟩)
          have hcases : decide ((1 : Int) < (len : Int)) = false ∨ ((1 : Int) < (len : Int) ∧ (c0 == 48) = false) := by
            by_cases h : 1 < len
            · exact .inr ⟨by omega, beq_eq_false_iff_ne.2 (fun h2 => hlead ⟨h, h2⟩)⟩
            · exact .inl (decide_eq_false (by omega))
          clear hlead
          rcases hcases with hq | ⟨hq1, hq2⟩
          all_goals
            go_wp2_with fail
            refine (clone_any (some ⟨b, off, none⟩) len cap zs w HCM.out hm).mono ?_
            rintro e w1 ⟨t1, rfl, hC1, hb1⟩
            rcases hC1 with ⟨_, h⟩ | ⟨rfl, ht, hsz⟩
            · omega
            have HCC : Hid (Cells w1 w.heap.size ts) := by rw [HTS.out]; exact cells_of' ht HZ.out
            have HB1 : Hid _ := hb1
            have HSZ : Hid _ := hsz
            clear ht hb1 hc0 hsz
            have c10 := intY_pos len HLN.out HCC.out h1 hm H45.out HDG.out HNL.out
            have c11 := fitsY_pos len HLN.out HCC.out h1 hm HDG.out HNL.out
            cases hF : Qi.fits false ts with
            | false =>
              rw [hF, val_no hF] at c10
              rw [hF] at c11
              have C10 : Hid (Calls Try.prog 10 #[.slice (some ⟨w.heap.size, 0, none⟩) len len] w1 fun e w' => e = .returned (.tuple #[.int .i64 0, .bool false]) ∧ w1 = w') := c10
              have C11 : Hid (Calls Try.prog 11 #[.slice (some ⟨w.heap.size, 0, none⟩) len len, .int .i64 0, .bool false] w1 fun e w' => e = .returned (.bool false) ∧ w1 = w') := c11
              clear c10 c11 hF
              go_wp2_with (first | (go_at_call 10; refine Calls.mono (Hid.out C10) ?_; rintro e w' ⟨rfl, rfl⟩) | (go_at_call 11; refine Calls.mono (Hid.out C11) ?_; rintro e w' ⟨rfl, rfl⟩))
              go_ret
              exact ⟨rfl, HB1.out⟩
            | true =>
              have HK := fits_len HDG.out HNL.out (by rw [HLN.out]; exact h1) hF
              rw [hF, val_pos hF] at c10
              rw [hF] at c11
              have C11 : Hid (Calls Try.prog 11 #[.slice (some ⟨w.heap.size, 0, none⟩) len len, .int .i64 0, .bool false] w1 fun e w' => e = .returned (.bool true) ∧ w1 = w') := c11
              by_cases h0 : Qi.num ts = 0
              · have HE : Hid (ts = [48]) := num_zero HDG.out HNL.out (by rw [HLN.out]; exact h1) h0
                rw [h0] at c10
                have C10 : Hid (Calls Try.prog 10 #[.slice (some ⟨w.heap.size, 0, none⟩) len len] w1 fun e w' => e = .returned (.tuple #[.int .i64 0, .bool true]) ∧ w1 = w') := c10
                have HLEN : Hid (len = 1) := by rw [← HLN.out, HE.out]; rfl
                clear c10 c11 hF h0 HK
                go_wp2_with (first | (go_at_call 10; refine Calls.mono (Hid.out C10) ?_; rintro e w' ⟨rfl, rfl⟩) | (go_at_call 11; refine Calls.mono (Hid.out C11) ?_; rintro e w' ⟨rfl, rfl⟩))
                refine (fmt_zero w1).mono ?_
                rintro e w2 ⟨rfl, hw2⟩
                have hb2 : Below w1.heap.size w1 w2 := by rw [hw2]; exact (Below.refl _ _).alloc (Nat.le_refl _) _
                have hs2 : w2.cell? ⟨w1.heap.size, 0, none⟩ = some (.int .u8 48) := by rw [hw2]; exact (World.rowIs_alloc w1 #[.int .u8 48] 5 (fun _ => .int .u8 48) (fun j hj => by match j, hj with | 0, _ => rfl)).cell (i := 0) (by simp)
                have hcc2 := cells_below HCC.out hb2 HSZ.out
                clear hw2
                go_wp2_with fail
                rw [HLEN.out]
                refine (eq_true w1.heap.size w.heap.size 1 1 1 (fun _ => 48) w2 (by omega) (fun j hj => by rw [show j = 0 by omega]; exact hs2) (fun j hj => by rw [show j = 0 by omega]; have := hcc2 0 (by rw [HE.out]; decide); rw [HE.out] at this; exact this)).mono ?_
                rintro e w3 ⟨rfl, q, rfl⟩
                have HB3 : Hid (Below w.heap.size w w2) := Below.trans HB1.out (hb2.mono (Below.size HB1.out))
                clear hb2 hs2 hcc2
                go_wp2
                go_ret
                exact ⟨rfl, below_drewN' HB3.out q⟩
              · obtain ⟨hlo, _⟩ := num_ge HDG.out HNL.out (by rw [HLN.out]; exact h1) h0
                have hhi := Qi.num_lt ts HDG.out
                rw [HLN.out] at hlo hhi HK
                have HLI : Hid _ := lim_pos hF
                have HLO : Hid _ := hlo
                have HHI : Hid _ := hhi
                have HU1 : Hid (1 ≤ Qi.num ts) := by show _ ≤ _; omega
                have HEQ : Hid (∀ j, j < len → dgt (Qi.num ts) (len - 1 - j) = ts.getD j 0) := fun j hj => by
                  have := Qi.num_digit ts HDG.out j (by rw [HLN.out]; exact hj)
                  rw [HLN.out] at this
                  exact this
                have C10 : Hid (Calls Try.prog 10 #[.slice (some ⟨w.heap.size, 0, none⟩) len len] w1 fun e w' => e = .returned (.tuple #[.int .i64 (Qi.num ts : Int), .bool true]) ∧ w1 = w') := c10
                clear c10 c11 hF h0 hlo hhi
                go_wp2_with (first | (go_at_call 10; refine Calls.mono (Hid.out C10) ?_; rintro e w' ⟨rfl, rfl⟩) | (go_at_call 11; refine Calls.mono (Hid.out C11) ?_; rintro e w' ⟨rfl, rfl⟩))
                refine (fmt_pos (Qi.num ts) len w1 h1 HK HLO.out HHI.out HLI.out HU1.out).mono ?_
                rintro e w2 ⟨g, rfl, hrow, hb2⟩
                have hcc2 := cells_below HCC.out hb2 HSZ.out
                go_wp2_with fail
                refine (eq_true g w.heap.size len len len (fun j => ts.getD j 0) w2 hm (fun j hj => by rw [← HEQ.out j hj]; exact hrow.cell hj) (fun j hj => hcc2 j (by rw [HLN.out]; exact hj))).mono ?_
                rintro e w3 ⟨rfl, q, rfl⟩
                have HB3 : Hid (Below w.heap.size w w2) := Below.trans HB1.out (hb2.mono (Below.size HB1.out))
                clear hb2 hrow hcc2
                go_wp2
                go_ret
                exact ⟨rfl, below_drewN' HB3.out q⟩
set_option maxHeartbeats 1000000 in
theorem law_dash (b off cap : Nat) (w : World) (hc0 : w.cell? ⟨b, off, none⟩ = some (.int .u8 45)) :
    Calls Try.prog 3 #[.slice (some ⟨b, off, none⟩) 1 cap] w fun e w' => e = .returned (.bool true) ∧ Below w.heap.size w w' := by
  go_enter Try.func3, Try.ntmps3
  go_wp2_with (go_at_call 7; refine (zz_any _ _ _ _ (by omega)).mono ?_; rintro e w' ⟨rfl, rfl⟩)
  go_ret
  exact ⟨rfl, Below.refl _ _⟩
theorem sgn_eq {ds : List Int} {n : Nat} (hd : Qi.dig ds = true) (hn : ds.length = n) (j : Nat) (hj : j < n + 1) : sgn (Qi.num ds) n j = (45 :: ds).getD j 0 := by
  unfold sgn
  cases j with
  | zero => rfl
  | succ j =>
    have := Qi.num_digit ds hd j (by omega)
    rw [hn] at this
    rw [if_neg (by omega), show n - (j + 1) = n - 1 - j by omega]
    unfold dgt
    rw [this]; rfl

set_option maxHeartbeats 4000000 in
theorem law_neg (b off n len cap : Nat) (zs ts : List Int) (w : World) (hlen : len = n + 1) (hts : 45 :: ts = zs.take len) (hl : len ≤ cap) (hz : zs.length = cap) (h1 : 1 ≤ n) (hm : len ≤ 1048576)
    (hcell : ∀ j, j < zs.length → w.cell? ⟨b, off + j, none⟩ = some (.int .u8 (zs.getD j 0))) :
    Calls Try.prog 3 #[.slice (some ⟨b, off, none⟩) len cap] w fun e w' => e = .returned (.bool true) ∧ Below w.heap.size w w' := by
  have HNN : Hid (len = n + 1) := hlen
  have hnl : n < len := by omega
  have hnl2 : len ≤ n + 1 := by omega
  have HLN : Hid (ts.length = n) := by
    have := congrArg List.length hts
    rw [List.length_take, List.length_cons] at this
    show _ = _; omega
  have HCL : Hid (∀ j, j < n → w.cell? ⟨b, off + (j + 1), none⟩ = some (.int .u8 (ts.getD j 0))) := fun j hj => by
    have e : ts.getD j 0 = zs.getD (j + 1) 0 := by rw [← getD_take (zs := zs) (n := len) (k := j + 1) (by omega), ← hts]; rfl
    rw [e]; exact hcell (j + 1) (by omega)
  have HCM : Hid (Came w (some ⟨b, off, none⟩) len cap zs) := .inr ⟨_, rfl, hl, hz, fun i hi => by rw [Go.WideShapes.add_plain]; exact hcell i hi⟩
  have HTS : Hid (45 :: ts = zs.take len) := hts
  have HZ : Hid (len ≤ zs.length) := by show _ ≤ _; omega
  have hc0 : w.cell? ⟨b, off, none⟩ = some (.int .u8 45) := by
    have e : (45 : Int) = zs.getD 0 0 := by rw [← getD_take (zs := zs) (n := len) (k := 0) (by omega), ← hts]; rfl
    rw [e]; exact hcell 0 (by omega)
  obtain ⟨c0, hcd⟩ : ∃ c, c = ts.getD 0 0 := ⟨_, rfl⟩
  have hc1 : w.cell? ⟨b, off + 1, none⟩ = some (.int .u8 c0) := by rw [hcd]; exact HCL.out 0 h1
  have HC0 : Hid (c0 = ts.getD 0 0) := hcd
  have hz0 : ((len : Int) == 0) = false := beq_eq_false_iff_ne.2 (by omega)
  have hz1 : ((1 : Int) == (len : Int)) = false := beq_eq_false_iff_ne.2 (by omega)
  have h1' : (1 : Int) < (len : Int) := by omega
  clear hts hz hcell hcd hlen
  go_enter Try.func3, Try.ntmps3
  go_wp2_with (go_at_call 7; refine (zz_any _ _ _ _ hm).mono ?_; rintro e w' ⟨rfl, rfl⟩)
  go_loop [5, 6] (fun s5 s6 => ∃ m : Nat, m ≤ n ∧ s6 = .int .i64 ((m : Int) + 1) ∧ s5 = .bool (gTo ts m)) (fun _ s6 => len - (intOf s6).toNat)
  case atStart => exact ⟨0, Nat.zero_le _, by go_num, rfl⟩
  case round =>
    obtain ⟨m, hml, rfl, rfl⟩ := hrel
    by_cases hlt : m < n
    · obtain ⟨c, hxd⟩ : ∃ c, c = ts.getD m 0 := ⟨_, rfl⟩
      have hxc : w.cell? ⟨b, off + (m + 1), none⟩ = some (.int .u8 c) := by rw [hxd]; exact HCL.out m hlt
      have HG : Hid (gTo ts (m + 1) = (gTo ts m && Qn.isD c)) := by rw [hxd]; exact gTo_succ ts m (by rw [HLN.out]; exact hlt)
      have hlt' : (m : Int) + 1 < (len : Int) := by omega
      clear hxd
      cases hg : Qn.isD c with
      | true =>
        rw [hg, Bool.and_true] at HG
        go_wp2_with (go_at_call 8; refine (isDig_r _ _).mono ?_; rintro e w' ⟨rfl, rfl⟩)
        go_round
        case rel => exact ⟨m + 1, by omega, by go_num, by rw [HG.out]⟩
        case measure => simp [intOf]; omega
      | false =>
        rw [hg, Bool.and_false] at HG
        go_wp2_with (go_at_call 8; refine (isDig_r _ _).mono ?_; rintro e w' ⟨rfl, rfl⟩)
        go_round
        case rel => exact ⟨m + 1, by omega, by go_num, by rw [HG.out]⟩
        case measure => simp [intOf]; omega
    · have hD := gTo_all ts m (by rw [HLN.out]; omega)
      rw [hD]
      have hlt' : ¬ (m : Int) + 1 < (len : Int) := by omega
      clear hD
      cases hdig : Qi.dig ts with
      | false =>
        have HDG : Hid _ := hdig
        clear hdig
        go_wp2_with fail
        refine (clone_any (some ⟨b, off, none⟩) len cap zs w HCM.out hm).mono ?_
        rintro e w1 ⟨t1, rfl, hC1, hb1⟩
        rcases hC1 with ⟨_, h⟩ | ⟨rfl, ht, hsz⟩
        · omega
        have HCC : Hid (Cells w1 w.heap.size (45 :: ts)) := by rw [HTS.out]; exact cells_of' ht HZ.out
        have HB1 : Hid _ := hb1
        clear ht hb1
        have c10 := intN_neg HLN.out HCC.out h1 (by omega) HDG.out
        rw [← HNN.out] at c10
        have C10 : Hid (Calls Try.prog 10 #[.slice (some ⟨w.heap.size, 0, none⟩) len len] w1 fun e w' => e = .returned (.tuple #[.int .i64 0, .bool false]) ∧ w1 = w') := c10
        clear c10
        go_wp2_with (go_at_call 10; refine Calls.mono (Hid.out C10) ?_; rintro e w' ⟨rfl, rfl⟩)
        go_ret
        exact ⟨rfl, HB1.out⟩
      | true =>
        have HDG : Hid _ := hdig
        clear hdig
        by_cases hlead : 1 < n ∧ c0 = 48
        · obtain ⟨hl1, rfl⟩ := hlead
          have hl1' : (1 : Int) < (len : Int) - 1 := by omega
          go_wp2
          go_ret
          exact ⟨rfl, Below.refl _ _⟩
        · have HNL : Hid (NoLead ts) := by
            by_cases h : n = 1
            · exact .inl (by rw [HLN.out]; exact h)
            · exact .inr (by rw [← HC0.out]; intro h2; exact hlead ⟨by omega, h2⟩)
          have hcases : decide ((1 : Int) < (len : Int) - 1) = false ∨ ((1 : Int) < (len : Int) - 1 ∧ (c0 == 48) = false) := by
            by_cases h : 1 < n
            · exact .inr ⟨by omega, beq_eq_false_iff_ne.2 (fun h2 => hlead ⟨h, h2⟩)⟩
            · exact .inl (decide_eq_false (by omega))
          clear hlead
          rcases hcases with hq1 | ⟨hq1, hq2⟩
          all_goals
            go_wp2_with fail
            refine (clone_any (some ⟨b, off, none⟩) len cap zs w HCM.out hm).mono ?_
            rintro e w1 ⟨t1, rfl, hC1, hb1⟩
            rcases hC1 with ⟨_, h⟩ | ⟨rfl, ht, hsz⟩
            · omega
            have HCC : Hid (Cells w1 w.heap.size (45 :: ts)) := by rw [HTS.out]; exact cells_of' ht HZ.out
            have HB1 : Hid _ := hb1
            have HSZ : Hid _ := hsz
            clear ht hb1 hc0 hc1 hsz
            have c10 := intY_neg HLN.out HCC.out h1 (by omega) HDG.out HNL.out
            have c11 := fitsY_neg HLN.out HCC.out h1 (by omega) HDG.out HNL.out
            rw [← HNN.out] at c10 c11
            cases hF : Qi.fits true ts with
            | false =>
              rw [hF, val_no hF] at c10
              rw [hF] at c11
              have C10 : Hid (Calls Try.prog 10 #[.slice (some ⟨w.heap.size, 0, none⟩) len len] w1 fun e w' => e = .returned (.tuple #[.int .i64 0, .bool false]) ∧ w1 = w') := c10
              have C11 : Hid (Calls Try.prog 11 #[.slice (some ⟨w.heap.size, 0, none⟩) len len, .int .i64 1, .bool true] w1 fun e w' => e = .returned (.bool false) ∧ w1 = w') := c11
              clear c10 c11 hF
              go_wp2_with (first | (go_at_call 10; refine Calls.mono (Hid.out C10) ?_; rintro e w' ⟨rfl, rfl⟩) | (go_at_call 11; refine Calls.mono (Hid.out C11) ?_; rintro e w' ⟨rfl, rfl⟩))
              go_ret
              exact ⟨rfl, HB1.out⟩
            | true =>
              have HK := fits_len HDG.out HNL.out (by rw [HLN.out]; exact h1) hF
              rw [hF, val_neg hF] at c10
              rw [hF] at c11
              have C11 : Hid (Calls Try.prog 11 #[.slice (some ⟨w.heap.size, 0, none⟩) len len, .int .i64 1, .bool true] w1 fun e w' => e = .returned (.bool true) ∧ w1 = w') := c11
              by_cases h0 : Qi.num ts = 0
              · have HE : Hid (ts = [48]) := num_zero HDG.out HNL.out (by rw [HLN.out]; exact h1) h0
                rw [h0] at c10
                have C10 : Hid (Calls Try.prog 10 #[.slice (some ⟨w.heap.size, 0, none⟩) len len] w1 fun e w' => e = .returned (.tuple #[.int .i64 0, .bool true]) ∧ w1 = w') := c10
                have HLEN : Hid (n = 1) := by rw [← HLN.out, HE.out]; rfl
                have hn2 : ((len : Int) == 2) = true := beq_iff_eq.2 (by rw [HNN.out, HLEN.out]; rfl)
                clear c10 c11 hF h0 HK
                go_wp2_with (first | (go_at_call 10; refine Calls.mono (Hid.out C10) ?_; rintro e w' ⟨rfl, rfl⟩) | (go_at_call 11; refine Calls.mono (Hid.out C11) ?_; rintro e w' ⟨rfl, rfl⟩))
                refine (fmt_zero w1).mono ?_
                rintro e w2 ⟨rfl, hw2⟩
                have hb2 : Below w1.heap.size w1 w2 := by rw [hw2]; exact (Below.refl _ _).alloc (Nat.le_refl _) _
                have hs2 : w2.cell? ⟨w1.heap.size, 0, none⟩ = some (.int .u8 48) := by rw [hw2]; exact (World.rowIs_alloc w1 #[.int .u8 48] 5 (fun _ => .int .u8 48) (fun j hj => by match j, hj with | 0, _ => rfl)).cell (i := 0) (by simp)
                have ht1 : w2.cell? ⟨w.heap.size, 1, none⟩ = some (.int .u8 48) := by
                  have := (cells_below HCC.out hb2 HSZ.out) 1 (by rw [HE.out]; decide)
                  rw [HE.out] at this; exact this
                have HB3 : Hid (Below w.heap.size w w2) := Below.trans HB1.out (hb2.mono (Below.size HB1.out))
                clear hw2 hb2
                go_wp2
                go_ret
                exact ⟨rfl, HB3.out⟩
              · obtain ⟨hlo, hfirst⟩ := num_ge HDG.out HNL.out (by rw [HLN.out]; exact h1) h0
                have hhi := Qi.num_lt ts HDG.out
                rw [HLN.out] at hlo hhi HK
                have HLI : Hid _ := lim_neg hF
                have HLO : Hid _ := hlo
                have HHI : Hid _ := hhi
                have HU1 : Hid (1 ≤ Qi.num ts) := by show _ ≤ _; omega
                have HEQ : Hid (∀ j, j < len → sgn (Qi.num ts) n j = (45 :: ts).getD j 0) := fun j hj => sgn_eq HDG.out HLN.out j (by omega)
                have hfb : (c0 == 48) = false := beq_eq_false_iff_ne.2 (by rw [HC0.out]; exact hfirst)
                have C10 : Hid (Calls Try.prog 10 #[.slice (some ⟨w.heap.size, 0, none⟩) len len] w1 fun e w' => e = .returned (.tuple #[.int .i64 (-(Qi.num ts : Int)), .bool true]) ∧ w1 = w') := c10
                clear c10 c11 hF h0 hlo hhi hfirst
                go_wp2_with (first | (go_at_call 10; refine Calls.mono (Hid.out C10) ?_; rintro e w' ⟨rfl, rfl⟩) | (go_at_call 11; refine Calls.mono (Hid.out C11) ?_; rintro e w' ⟨rfl, rfl⟩))
                have c12 := fmt_neg (Qi.num ts) n w1 h1 HK HLO.out HHI.out HLI.out HU1.out
                rw [← HNN.out] at c12
                refine c12.mono ?_
                clear c12
                rintro e w2 ⟨g, rfl, hrow, hb2⟩
                have hcc2 : Hid (Cells w2 w.heap.size (45 :: ts)) := cells_below HCC.out hb2 HSZ.out
                have ht1 : w2.cell? ⟨w.heap.size, 1, none⟩ = some (.int .u8 c0) := by
                  rw [HC0.out]; exact hcc2.out 1 (by rw [List.length_cons, HLN.out]; omega)
                have HB3 : Hid (Below w.heap.size w w2) := Below.trans HB1.out (hb2.mono (Below.size HB1.out))
                have HROW : Hid (∀ j, j < len → w2.cell? ⟨g, j, none⟩ = some (.int .u8 (sgn (Qi.num ts) n j))) := fun j hj => hrow.cell hj
                clear hb2 hrow
                by_cases hn2 : n = 1
                · have hn2b : ((len : Int) == 2) = true := beq_iff_eq.2 (by omega)
                  clear hn2
                  go_wp2_with fail
                  refine (eq_true g w.heap.size len len len (fun j => (45 :: ts).getD j 0) w2 hm (fun j hj => by rw [← HEQ.out j hj]; exact HROW.out j hj) (fun j hj => hcc2.out j (by rw [List.length_cons, HLN.out]; omega))).mono ?_
                  rintro e w3 ⟨rfl, q, rfl⟩
                  go_wp2
                  go_ret
                  exact ⟨rfl, below_drewN' HB3.out q⟩
                · have hn2b : ((len : Int) == 2) = false := beq_eq_false_iff_ne.2 (by omega)
                  clear hn2
                  go_wp2_with fail
                  refine (eq_true g w.heap.size len len len (fun j => (45 :: ts).getD j 0) w2 hm (fun j hj => by rw [← HEQ.out j hj]; exact HROW.out j hj) (fun j hj => hcc2.out j (by rw [List.length_cons, HLN.out]; omega))).mono ?_
                  rintro e w3 ⟨rfl, q, rfl⟩
                  go_wp2
                  go_ret
                  exact ⟨rfl, below_drewN' HB3.out q⟩
end Go.Proofs.Qxb6605565a
