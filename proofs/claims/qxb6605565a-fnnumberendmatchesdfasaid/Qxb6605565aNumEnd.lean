import Derived.Test.Qxb6605565aNumWalks
namespace Go.Proofs.Qxb6605565a
open Go.RowKit

/-- the byte at place j is there and answers p -/
def at? (ts : List Int) (p : Int → Bool) (j : Nat) : Bool := Qn.hd (ts.drop j) p
theorem at_end (ts : List Int) (p : Int → Bool) (j : Nat) (h : ts.length ≤ j) : at? ts p j = false := hd_end ts j p h
theorem at_is (ts : List Int) (p : Int → Bool) (j : Nat) (h : j < ts.length) : at? ts p j = p (ts.getD j 0) := hd_at ts j p h
theorem at_lt {ts : List Int} {p : Int → Bool} {j : Nat} (h : at? ts p j = true) : j < ts.length ∧ p (ts.getD j 0) = true := by
  by_cases hl : j < ts.length
  · exact ⟨hl, by rw [← at_is ts p j hl]; exact h⟩
  · rw [at_end ts p j (by omega)] at h; cases h
theorem fr_no (ts : List Int) (k : Nat) (h : at? ts (· == 46) k = false) : Qn.fr (ts.drop k) = Qn.ex (ts.drop k) := by
  by_cases hl : k < ts.length
  · rw [at_is ts _ k hl] at h
    exact fr_not ts k hl (by simpa using h)
  · exact fr_end ts k (by omega)
theorem ex_no (ts : List Int) (k : Nat) (h : at? ts Qn.isE k = false) : endOf (Qn.ex (ts.drop k)) k = (k : Int) := by
  by_cases hl : k < ts.length
  · rw [at_is ts _ k hl] at h
    exact ex_not ts k hl h
  · exact ex_end ts k (by omega)
theorem ex_s (ts : List Int) (k : Nat) (h : at? ts Qn.isE k = true) (hs : at? ts Qn.isS (k + 1) = true) : endOf (Qn.ex (ts.drop k)) k = xEnd ts (k + 1 + 1) := by
  obtain ⟨h1, h2⟩ := at_lt h
  obtain ⟨h3, h4⟩ := at_lt hs
  exact ex_sign ts k h1 h2 h3 h4
theorem ex_b (ts : List Int) (k : Nat) (h : at? ts Qn.isE k = true) (hs : at? ts Qn.isS (k + 1) = false) : endOf (Qn.ex (ts.drop k)) k = xEnd ts (k + 1) := by
  obtain ⟨h1, h2⟩ := at_lt h
  exact ex_bare ts k h1 h2 hs
theorem isE_no {c : Int} (h1 : c ≠ 101) (h2 : c ≠ 69) : Qn.isE c = false := by simp [Qn.isE, h1, h2]
theorem isS_no {c : Int} (h1 : c ≠ 43) (h2 : c ≠ 45) : Qn.isS c = false := by simp [Qn.isS, h1, h2]
theorem bool_of {a b : Bool} (h : a = b) : Value.bool a = .bool b := by rw [h]

theorem isDigit_q (c : Int) (w : World) :
    Calls Try.prog 23 #[.int .u8 c] w fun e w' => e = .returned (.bool (Qn.isD c)) ∧ w = w' := (isDigit_any c w).mono fun _ _ ⟨h, k⟩ => ⟨h, k.symm⟩
theorem digitsEnd_q (b n cap : Nat) (ts : List Int) (i : Nat) (w : World) (hn : ts.length = n) (hc : Cells w b ts) (hi : i ≤ n) (hm : n ≤ 1048576) :
    Calls Try.prog 29 #[.slice (some ⟨b, 0, none⟩) n cap, .int .i64 i] w fun e w' => e = .returned (.int .i64 ((i + Qn.dl (ts.drop i) : Nat) : Int)) ∧ w = w' :=
  (digitsEnd_any b n cap ts i w hn hc hi hm).mono fun _ _ ⟨h, k⟩ => ⟨h, k.symm⟩

set_option maxRecDepth 100000 in
set_option maxHeartbeats 4000000 in
theorem numberEnd_any (b n cap : Nat) (ts : List Int) (i : Nat) (w : World) (hn : ts.length = n) (hc : Cells w b ts) (hi : i < n) (hm : n ≤ 1048576) :
    Calls Try.prog 25 #[.slice (some ⟨b, 0, none⟩) n cap, .int .i64 i] w fun e w' => e = .returned (.int .i64 (nEnd ts i)) ∧ w' = w := by
  have HCs : Hid (Cells w b ts) := hc
  have HN : Hid (ts.length = n) := hn
  obtain ⟨c, hcd⟩ : ∃ c, c = ts.getD i 0 := ⟨_, rfl⟩
  have hcell : w.cell? ⟨b, i, none⟩ = some (.int .u8 c) := by rw [hcd]; exact hc i (by omega)
  have HC : Hid (c = ts.getD i 0) := hcd
  clear hc hn hcd
  go_enter Try.func25, Try.ntmps25
  go_upto_if 9 with fail
  go_cut [1] (fun s1 wx => w = wx ∧ ∃ j : Nat, j ≤ n ∧ s1 = .int .i64 j ∧ Hid (nEnd ts i = endOf (Qn.ip (ts.drop j)) j))
  case first =>
    by_cases h45 : c = 45
    · subst h45
      have H : Hid _ := sg_yes ts i (by rw [HN.out]; exact hi) HC.out.symm
      go_wp2
      go_meet
      case rel => exact ⟨rfl, i + 1, by omega, by go_num, H⟩
    · have H : Hid _ := sg_no ts i (by rw [HN.out]; exact hi) (by rw [← HC.out]; exact h45)
      have hb : (c == 45) = false := beq_eq_false_iff_ne.2 h45
      clear h45
      go_wp2
      go_meet
      case rel => exact ⟨rfl, i, by omega, rfl, H⟩
  case rest =>
    obtain ⟨rfl, j, hj, rfl, HJ⟩ := hcut
    clear hcell HC
    by_cases hjn : j < n
    · obtain ⟨d, hdd⟩ : ∃ d, d = ts.getD j 0 := ⟨_, rfl⟩
      have hdc : w.cell? ⟨b, j, none⟩ = some (.int .u8 d) := by rw [hdd]; exact HCs.out j (by rw [HN.out]; exact hjn)
      have HD : Hid (d = ts.getD j 0) := hdd
      have hjb : ((j : Int) == (n : Int)) = false := beq_eq_false_iff_ne.2 (by omega)
      clear hdd
      cases hdig : Qn.isD d with
      | false =>
        have H : Hid (nEnd ts i = -1) := by rw [HJ.out, ip_bad ts j (by rw [HN.out]; exact hjn) (by rw [← HD.out]; exact hdig)]; rfl
        go_wp2_with (go_at_call 23; refine (isDigit_q _ _).mono ?_; rintro e w' ⟨rfl, rfl⟩)
        go_ret
        exact ⟨ret_i64 H.out.symm, rfl⟩
      | true =>
        go_upto_if 28 with (go_at_call 23; refine (isDigit_q _ _).mono ?_; rintro e w' ⟨rfl, rfl⟩)
        go_cut [1] (fun s1 wx => w = wx ∧ ∃ k : Nat, k ≤ n ∧ s1 = .int .i64 k ∧ Hid (nEnd ts i = endOf (Qn.fr (ts.drop k)) k))
        case first =>
          by_cases h48 : d = 48
          · subst h48
            have H : Hid (nEnd ts i = endOf (Qn.fr (ts.drop (j + 1))) (j + 1)) := by rw [HJ.out, ip_zero ts j (by rw [HN.out]; exact hjn) HD.out.symm]; rfl
            go_wp2
            go_meet
            case rel => exact ⟨rfl, j + 1, by omega, by go_num, H⟩
          · have H : Hid (nEnd ts i = endOf (Qn.fr (ts.drop (j + Qn.dl (ts.drop j)))) (j + Qn.dl (ts.drop j))) := by
              rw [HJ.out, ip_dig ts j (by rw [HN.out]; exact hjn) (by rw [← HD.out]; exact hdig) (by rw [← HD.out]; exact h48)]; rfl
            have hb : (d == 48) = false := beq_eq_false_iff_ne.2 h48
            have hle := dl_top ts j (by rw [HN.out]; omega)
            rw [HN.out] at hle
            have c1 := digitsEnd_q b n cap ts j w HN.out HCs.out hj hm
            generalize Qn.dl (ts.drop j) = dd at *
            clear h48
            have c1' : Hid (Calls Try.prog 29 #[.slice (some ⟨b, 0, none⟩) n cap, .int .i64 j] w fun e w' => e = .returned (.int .i64 ((j + dd : Nat) : Int)) ∧ w = w') := c1
            clear c1
            go_wp2_with (go_at_call 29; refine Calls.mono (Hid.out c1') ?_; rintro e w' ⟨rfl, rfl⟩)
            go_meet
            case rel => exact ⟨rfl, j + dd, hle, rfl, H⟩
        case rest =>
          obtain ⟨rfl, k, hk, rfl, HK⟩ := hcut
          clear hdc HD hjb HJ hdig hjn hj hi
          go_upto_region 8 with fail
          go_cut [44] (fun s44 wx => w = wx ∧ s44 = .bool (at? ts (· == 46) k))
          case first =>
            by_cases hkn : k < n
            · obtain ⟨x, hxd⟩ : ∃ x, x = ts.getD k 0 := ⟨_, rfl⟩
              have hxc : w.cell? ⟨b, k, none⟩ = some (.int .u8 x) := by rw [hxd]; exact HCs.out k (by rw [HN.out]; exact hkn)
              have HX : Hid (at? ts (· == 46) k = (x == 46)) := by rw [hxd]; exact at_is ts _ k (by rw [HN.out]; exact hkn)
              have hkn' : (k : Int) < (n : Int) := by omega
              clear hxd
              go_wp2
              go_meet
              case rel => exact ⟨rfl, bool_of HX.out.symm⟩
            · have hkd : decide ((k : Int) < (n : Int)) = false := decide_eq_false (by omega)
              have HX : Hid (at? ts (· == 46) k = false) := at_end ts _ k (by rw [HN.out]; omega)
              go_wp2
              go_meet
              case rel => exact ⟨rfl, bool_of HX.out.symm⟩
          case rest =>
            obtain ⟨rfl, rfl⟩ := hcut
            go_upto_if 44 with fail
            go_cut [1] (fun s1 wx => w = wx ∧ ∃ m : Nat, m ≤ n ∧ s1 = .int .i64 m ∧ Hid (nEnd ts i = endOf (Qn.ex (ts.drop m)) m))
            case first =>
              cases hB : at? ts (· == 46) k with
              | false =>
                have H : Hid (nEnd ts i = endOf (Qn.ex (ts.drop k)) k) := by rw [HK.out, fr_no ts k hB]; rfl
                clear hB
                go_wp2
                go_meet
                case rel => exact ⟨rfl, k, hk, rfl, H⟩
              | true =>
                obtain ⟨hkl, hk46⟩ := at_lt hB
                have h46 : ts.getD k 0 = 46 := by simpa using hk46
                have hkn : k < n := by rw [← HN.out]; exact hkl
                clear hB hk46
                by_cases hk1 : k + 1 < n
                · obtain ⟨x, hxd⟩ : ∃ x, x = ts.getD (k + 1) 0 := ⟨_, rfl⟩
                  have hxc : w.cell? ⟨b, k + 1, none⟩ = some (.int .u8 x) := by rw [hxd]; exact HCs.out (k + 1) (by rw [HN.out]; exact hk1)
                  have hkb : ((k : Int) + 1 == (n : Int)) = false := beq_eq_false_iff_ne.2 (by omega)
                  cases hxg : Qn.isD x with
                  | false =>
                    have H : Hid (nEnd ts i = -1) := by rw [HK.out, fr_bad ts k hkl h46 (by rw [HN.out]; exact hk1) (by rw [← hxd]; exact hxg)]; rfl
                    clear hkl h46 hxd
                    go_wp2_with (go_at_call 23; refine (isDigit_q _ _).mono ?_; rintro e w' ⟨rfl, rfl⟩)
                    go_ret
                    exact ⟨ret_i64 H.out.symm, rfl⟩
                  | true =>
                    have H : Hid (nEnd ts i = endOf (Qn.ex (ts.drop (k + 1 + Qn.dl (ts.drop (k + 1))))) (k + 1 + Qn.dl (ts.drop (k + 1)))) := by
                      rw [HK.out, fr_ok ts k hkl h46 (by rw [HN.out]; exact hk1) (by rw [← hxd]; exact hxg)]; rfl
                    have hle := dl_top ts (k + 1) (by rw [HN.out]; omega)
                    rw [HN.out] at hle
                    have c1 := digitsEnd_q b n cap ts (k + 1) w HN.out HCs.out (by omega) hm
                    generalize Qn.dl (ts.drop (k + 1)) = dd at *
                    have c1' : Hid (Calls Try.prog 29 #[.slice (some ⟨b, 0, none⟩) n cap, .int .i64 ((k : Int) + 1)] w fun e w' => e = .returned (.int .i64 ((k + 1 + dd : Nat) : Int)) ∧ w = w') := c1
                    clear c1 hkl h46 hxd
                    go_wp2_with (first | (go_at_call 23; refine (isDigit_q _ _).mono ?_; rintro e w' ⟨rfl, rfl⟩) | (go_at_call 29; refine Calls.mono (Hid.out c1') ?_; rintro e w' ⟨rfl, rfl⟩))
                    go_meet
                    case rel => exact ⟨rfl, k + 1 + dd, hle, rfl, H⟩
                · have H : Hid (nEnd ts i = -1) := by rw [HK.out, fr_cut ts k hkl h46 (by rw [HN.out]; omega)]; rfl
                  have hkb : ((k : Int) + 1 == (n : Int)) = true := beq_iff_eq.2 (by omega)
                  clear hkl h46
                  go_wp2
                  go_ret
                  exact ⟨ret_i64 H.out.symm, rfl⟩
            case rest =>
              obtain ⟨rfl, m, hmn, rfl, HM⟩ := hcut
              clear HK hk
              go_upto_region 13 with fail
              go_cut [79] (fun s79 wx => w = wx ∧ s79 = .bool (at? ts Qn.isE m))
              case first =>
                by_cases hkn : m < n
                · obtain ⟨x, hxd⟩ : ∃ x, x = ts.getD m 0 := ⟨_, rfl⟩
                  have hxc : w.cell? ⟨b, m, none⟩ = some (.int .u8 x) := by rw [hxd]; exact HCs.out m (by rw [HN.out]; exact hkn)
                  have HX : Hid (at? ts Qn.isE m = Qn.isE x) := by rw [hxd]; exact at_is ts _ m (by rw [HN.out]; exact hkn)
                  have hkn' : (m : Int) < (n : Int) := by omega
                  clear hxd
                  by_cases x1 : x = 101
                  · subst x1
                    have HX2 : Hid (at? ts Qn.isE m = true) := by rw [HX.out]; rfl
                    go_wp2
                    go_meet
                    case rel => exact ⟨rfl, bool_of HX2.out.symm⟩
                  · have y1 : (x == 101) = false := beq_eq_false_iff_ne.2 x1
                    by_cases x2 : x = 69
                    · subst x2
                      have HX2 : Hid (at? ts Qn.isE m = true) := by rw [HX.out]; rfl
                      clear x1
                      go_wp2
                      go_meet
                      case rel => exact ⟨rfl, bool_of HX2.out.symm⟩
                    · have y2 : (x == 69) = false := beq_eq_false_iff_ne.2 x2
                      have HX2 : Hid (at? ts Qn.isE m = false) := by rw [HX.out, isE_no x1 x2]; rfl
                      clear x1 x2
                      go_wp2
                      go_meet
                      case rel => exact ⟨rfl, bool_of HX2.out.symm⟩
                · have hkd : decide ((m : Int) < (n : Int)) = false := decide_eq_false (by omega)
                  have HX : Hid (at? ts Qn.isE m = false) := at_end ts _ m (by rw [HN.out]; omega)
                  go_wp2
                  go_meet
                  case rel => exact ⟨rfl, bool_of HX.out.symm⟩
              case rest =>
                obtain ⟨rfl, rfl⟩ := hcut
                cases hB : at? ts Qn.isE m with
                | false =>
                  have H : Hid (nEnd ts i = (m : Int)) := by rw [HM.out, ex_no ts m hB]; rfl
                  clear hB
                  go_wp2
                  go_ret
                  exact ⟨ret_i64 H.out.symm, rfl⟩
                | true =>
                  have HB : Hid (at? ts Qn.isE m = true) := hB
                  have hmn1 : m + 1 ≤ n := by have := (at_lt hB).1; rw [HN.out] at this; omega
                  clear hB
                  go_upto_region 15 with fail
                  go_cut [99] (fun s99 wx => w = wx ∧ s99 = .bool (at? ts Qn.isS (m + 1)))
                  case first =>
                    by_cases hkn : m + 1 < n
                    · obtain ⟨x, hxd⟩ : ∃ x, x = ts.getD (m + 1) 0 := ⟨_, rfl⟩
                      have hxc : w.cell? ⟨b, m + 1, none⟩ = some (.int .u8 x) := by rw [hxd]; exact HCs.out (m + 1) (by rw [HN.out]; exact hkn)
                      have HX : Hid (at? ts Qn.isS (m + 1) = Qn.isS x) := by rw [hxd]; exact at_is ts _ (m + 1) (by rw [HN.out]; exact hkn)
                      have hkn' : (m : Int) + 1 < (n : Int) := by omega
                      clear hxd
                      by_cases x1 : x = 43
                      · subst x1
                        have HX2 : Hid (at? ts Qn.isS (m + 1) = true) := by rw [HX.out]; rfl
                        go_wp2
                        go_meet
                        case rel => exact ⟨rfl, bool_of HX2.out.symm⟩
                      · have y1 : (x == 43) = false := beq_eq_false_iff_ne.2 x1
                        by_cases x2 : x = 45
                        · subst x2
                          have HX2 : Hid (at? ts Qn.isS (m + 1) = true) := by rw [HX.out]; rfl
                          clear x1
                          go_wp2
                          go_meet
                          case rel => exact ⟨rfl, bool_of HX2.out.symm⟩
                        · have y2 : (x == 45) = false := beq_eq_false_iff_ne.2 x2
                          have HX2 : Hid (at? ts Qn.isS (m + 1) = false) := by rw [HX.out, isS_no x1 x2]; rfl
                          clear x1 x2
                          go_wp2
                          go_meet
                          case rel => exact ⟨rfl, bool_of HX2.out.symm⟩
                    · have hkd : decide ((m : Int) + 1 < (n : Int)) = false := decide_eq_false (by omega)
                      have HX : Hid (at? ts Qn.isS (m + 1) = false) := at_end ts _ (m + 1) (by rw [HN.out]; omega)
                      go_wp2
                      go_meet
                      case rel => exact ⟨rfl, bool_of HX.out.symm⟩
                  case rest =>
                    obtain ⟨rfl, rfl⟩ := hcut
                    go_upto_if 99 with fail
                    go_cut [1] (fun s1 wx => w = wx ∧ ∃ q : Nat, q ≤ n ∧ s1 = .int .i64 q ∧ Hid (nEnd ts i = xEnd ts q))
                    case first =>
                      cases hS : at? ts Qn.isS (m + 1) with
                      | false =>
                        have H : Hid (nEnd ts i = xEnd ts (m + 1)) := by rw [HM.out, ex_b ts m HB.out hS]; rfl
                        clear hS
                        go_wp2
                        go_meet
                        case rel => exact ⟨rfl, m + 1, hmn1, by go_num, H⟩
                      | true =>
                        have H : Hid (nEnd ts i = xEnd ts (m + 1 + 1)) := by rw [HM.out, ex_s ts m HB.out hS]; rfl
                        have hmn2 : m + 1 < n := by have := (at_lt hS).1; rw [HN.out] at this; omega
                        clear hS
                        go_wp2
                        go_meet
                        case rel => exact ⟨rfl, m + 1 + 1, by omega, by go_num, H⟩
                    case rest =>
                      obtain ⟨rfl, q, hq, rfl, HQ⟩ := hcut
                      clear HM HB hmn1 hmn
                      by_cases hqn : q < n
                      · obtain ⟨x, hxd⟩ : ∃ x, x = ts.getD q 0 := ⟨_, rfl⟩
                        have hxc : w.cell? ⟨b, q, none⟩ = some (.int .u8 x) := by rw [hxd]; exact HCs.out q (by rw [HN.out]; exact hqn)
                        have hqb : ((q : Int) == (n : Int)) = false := beq_eq_false_iff_ne.2 (by omega)
                        cases hxg : Qn.isD x with
                        | false =>
                          have H : Hid (nEnd ts i = -1) := by rw [HQ.out, x_bad ts q (by rw [HN.out]; exact hqn) (by rw [← hxd]; exact hxg)]; rfl
                          clear hxd
                          go_wp2_with (go_at_call 23; refine (isDigit_q _ _).mono ?_; rintro e w' ⟨rfl, rfl⟩)
                          go_ret
                          exact ⟨ret_i64 H.out.symm, rfl⟩
                        | true =>
                          have H : Hid (nEnd ts i = ((q + Qn.dl (ts.drop q) : Nat) : Int)) := by
                            rw [HQ.out, x_ok ts q (by rw [HN.out]; exact hqn) (by rw [← hxd]; exact hxg)]; rfl
                          have c1 := digitsEnd_q b n cap ts q w HN.out HCs.out hq hm
                          generalize Qn.dl (ts.drop q) = dd at *
                          have c1' : Hid (Calls Try.prog 29 #[.slice (some ⟨b, 0, none⟩) n cap, .int .i64 q] w fun e w' => e = .returned (.int .i64 ((q + dd : Nat) : Int)) ∧ w = w') := c1
                          clear c1 hxd
                          go_wp2_with (first | (go_at_call 23; refine (isDigit_q _ _).mono ?_; rintro e w' ⟨rfl, rfl⟩) | (go_at_call 29; refine Calls.mono (Hid.out c1') ?_; rintro e w' ⟨rfl, rfl⟩))
                          go_ret
                          exact ⟨ret_i64 H.out.symm, rfl⟩
                      · have H : Hid (nEnd ts i = -1) := by rw [HQ.out, x_end ts q (by rw [HN.out]; omega)]; rfl
                        have hqb : ((q : Int) == (n : Int)) = true := beq_iff_eq.2 (by omega)
                        go_wp2
                        go_ret
                        exact ⟨ret_i64 H.out.symm, rfl⟩
    · have H : Hid (nEnd ts i = -1) := by rw [HJ.out, ip_end ts j (by rw [HN.out]; omega)]; rfl
      have hjb : ((j : Int) == (n : Int)) = true := beq_iff_eq.2 (by omega)
      go_wp2
      go_ret
      exact ⟨ret_i64 H.out.symm, rfl⟩
end Go.Proofs.Qxb6605565a
