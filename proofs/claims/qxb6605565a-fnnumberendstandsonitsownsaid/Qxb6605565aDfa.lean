import Derived.Test.Qxb6605565aNumEnd
namespace Go.Proofs.Qxb6605565a
open Go.RowKit

def stI (s : Nat) (c : Int) : Int := match Qn.st s c with | some k => (k : Int) | none => -1
theorem isDig_q (c : Int) (w : World) :
    Calls Try.prog 8 #[.int .u8 c] w fun e w' => e = .returned (.bool (Qn.isD c)) ∧ w = w' := (isDig_any c w).mono fun _ _ ⟨h, k⟩ => ⟨h, k.symm⟩
section
variable (c : Int) (w : World)
set_option maxHeartbeats 1000000 in
theorem step0 : Calls Try.prog 26 #[.int .i64 0, .int .u8 c] w fun e w' => e = .returned (.int .i64 (stI 0 c)) ∧ w = w' := by
  cases h0 : (c == 45) <;> cases h1 : (c == 48) <;> cases h2 : Qn.isD c
  all_goals
    go_enter Try.func26, Try.ntmps26
    go_wp2_with (go_at_call 8; refine (isDig_q _ _).mono ?_; rintro e w' ⟨rfl, rfl⟩)
    go_ret
    refine ⟨ret_i64 ?_, rfl⟩
    simp only [stI, Qn.st, h0, h1, h2]
    rfl
set_option maxHeartbeats 1000000 in
theorem step1 : Calls Try.prog 26 #[.int .i64 1, .int .u8 c] w fun e w' => e = .returned (.int .i64 (stI 1 c)) ∧ w = w' := by
  cases h0 : (c == 48) <;> cases h1 : Qn.isD c
  all_goals
    go_enter Try.func26, Try.ntmps26
    go_wp2_with (go_at_call 8; refine (isDig_q _ _).mono ?_; rintro e w' ⟨rfl, rfl⟩)
    go_ret
    refine ⟨ret_i64 ?_, rfl⟩
    simp only [stI, Qn.st, h0, h1]
    rfl
set_option maxHeartbeats 1000000 in
theorem step2 : Calls Try.prog 26 #[.int .i64 2, .int .u8 c] w fun e w' => e = .returned (.int .i64 (stI 2 c)) ∧ w = w' := by
  cases h0 : (c == 46) <;> cases h1 : (c == 101) <;> cases h2 : (c == 69)
  all_goals
    go_enter Try.func26, Try.ntmps26
    go_wp2_with (go_at_call 8; refine (isDig_q _ _).mono ?_; rintro e w' ⟨rfl, rfl⟩)
    go_ret
    refine ⟨ret_i64 ?_, rfl⟩
    simp only [stI, Qn.st, Qn.isE, h0, h1, h2]
    rfl
set_option maxHeartbeats 1000000 in
theorem step3 : Calls Try.prog 26 #[.int .i64 3, .int .u8 c] w fun e w' => e = .returned (.int .i64 (stI 3 c)) ∧ w = w' := by
  cases h0 : Qn.isD c <;> cases h1 : (c == 46) <;> cases h2 : (c == 101) <;> cases h3 : (c == 69)
  all_goals
    go_enter Try.func26, Try.ntmps26
    go_wp2_with (go_at_call 8; refine (isDig_q _ _).mono ?_; rintro e w' ⟨rfl, rfl⟩)
    go_ret
    refine ⟨ret_i64 ?_, rfl⟩
    simp only [stI, Qn.st, Qn.isE, h0, h1, h2, h3]
    rfl
set_option maxHeartbeats 1000000 in
theorem step4 : Calls Try.prog 26 #[.int .i64 4, .int .u8 c] w fun e w' => e = .returned (.int .i64 (stI 4 c)) ∧ w = w' := by
  cases h0 : Qn.isD c
  all_goals
    go_enter Try.func26, Try.ntmps26
    go_wp2_with (go_at_call 8; refine (isDig_q _ _).mono ?_; rintro e w' ⟨rfl, rfl⟩)
    go_ret
    refine ⟨ret_i64 ?_, rfl⟩
    simp only [stI, Qn.st, h0]
    rfl
set_option maxHeartbeats 1000000 in
theorem step5 : Calls Try.prog 26 #[.int .i64 5, .int .u8 c] w fun e w' => e = .returned (.int .i64 (stI 5 c)) ∧ w = w' := by
  cases h0 : Qn.isD c <;> cases h1 : (c == 101) <;> cases h2 : (c == 69)
  all_goals
    go_enter Try.func26, Try.ntmps26
    go_wp2_with (go_at_call 8; refine (isDig_q _ _).mono ?_; rintro e w' ⟨rfl, rfl⟩)
    go_ret
    refine ⟨ret_i64 ?_, rfl⟩
    simp only [stI, Qn.st, Qn.isE, h0, h1, h2]
    rfl
set_option maxHeartbeats 1000000 in
theorem step6 : Calls Try.prog 26 #[.int .i64 6, .int .u8 c] w fun e w' => e = .returned (.int .i64 (stI 6 c)) ∧ w = w' := by
  cases h0 : (c == 43) <;> cases h1 : (c == 45) <;> cases h2 : Qn.isD c
  all_goals
    go_enter Try.func26, Try.ntmps26
    go_wp2_with (go_at_call 8; refine (isDig_q _ _).mono ?_; rintro e w' ⟨rfl, rfl⟩)
    go_ret
    refine ⟨ret_i64 ?_, rfl⟩
    simp only [stI, Qn.st, Qn.isS, h0, h1, h2]
    rfl
set_option maxHeartbeats 1000000 in
theorem step7 : Calls Try.prog 26 #[.int .i64 7, .int .u8 c] w fun e w' => e = .returned (.int .i64 (stI 7 c)) ∧ w = w' := by
  cases h0 : Qn.isD c
  all_goals
    go_enter Try.func26, Try.ntmps26
    go_wp2_with (go_at_call 8; refine (isDig_q _ _).mono ?_; rintro e w' ⟨rfl, rfl⟩)
    go_ret
    refine ⟨ret_i64 ?_, rfl⟩
    simp only [stI, Qn.st, h0]
    rfl
set_option maxHeartbeats 1000000 in
theorem step8 : Calls Try.prog 26 #[.int .i64 8, .int .u8 c] w fun e w' => e = .returned (.int .i64 (stI 8 c)) ∧ w = w' := by
  cases h0 : Qn.isD c
  all_goals
    go_enter Try.func26, Try.ntmps26
    go_wp2_with (go_at_call 8; refine (isDig_q _ _).mono ?_; rintro e w' ⟨rfl, rfl⟩)
    go_ret
    refine ⟨ret_i64 ?_, rfl⟩
    simp only [stI, Qn.st, h0]
    rfl
theorem step_any (s : Nat) (hs : s ≤ 8) : Calls Try.prog 26 #[.int .i64 s, .int .u8 c] w fun e w' => e = .returned (.int .i64 (stI s c)) ∧ w = w' := by
  match s, hs with
  | 0, _ => exact step0 c w
  | 1, _ => exact step1 c w
  | 2, _ => exact step2 c w
  | 3, _ => exact step3 c w
  | 4, _ => exact step4 c w
  | 5, _ => exact step5 c w
  | 6, _ => exact step6 c w
  | 7, _ => exact step7 c w
  | 8, _ => exact step8 c w
set_option maxHeartbeats 400000 in
theorem acc0 : Calls Try.prog 27 #[.int .i64 0] w fun e w' => e = .returned (.bool (Qn.acc 0)) ∧ w = w' := by
  go_enter Try.func27, Try.ntmps27
  go_wp2
  go_ret
  exact ⟨rfl, rfl⟩
set_option maxHeartbeats 400000 in
theorem acc1 : Calls Try.prog 27 #[.int .i64 1] w fun e w' => e = .returned (.bool (Qn.acc 1)) ∧ w = w' := by
  go_enter Try.func27, Try.ntmps27
  go_wp2
  go_ret
  exact ⟨rfl, rfl⟩
set_option maxHeartbeats 400000 in
theorem acc2 : Calls Try.prog 27 #[.int .i64 2] w fun e w' => e = .returned (.bool (Qn.acc 2)) ∧ w = w' := by
  go_enter Try.func27, Try.ntmps27
  go_wp2
  go_ret
  exact ⟨rfl, rfl⟩
set_option maxHeartbeats 400000 in
theorem acc3 : Calls Try.prog 27 #[.int .i64 3] w fun e w' => e = .returned (.bool (Qn.acc 3)) ∧ w = w' := by
  go_enter Try.func27, Try.ntmps27
  go_wp2
  go_ret
  exact ⟨rfl, rfl⟩
set_option maxHeartbeats 400000 in
theorem acc4 : Calls Try.prog 27 #[.int .i64 4] w fun e w' => e = .returned (.bool (Qn.acc 4)) ∧ w = w' := by
  go_enter Try.func27, Try.ntmps27
  go_wp2
  go_ret
  exact ⟨rfl, rfl⟩
set_option maxHeartbeats 400000 in
theorem acc5 : Calls Try.prog 27 #[.int .i64 5] w fun e w' => e = .returned (.bool (Qn.acc 5)) ∧ w = w' := by
  go_enter Try.func27, Try.ntmps27
  go_wp2
  go_ret
  exact ⟨rfl, rfl⟩
set_option maxHeartbeats 400000 in
theorem acc6 : Calls Try.prog 27 #[.int .i64 6] w fun e w' => e = .returned (.bool (Qn.acc 6)) ∧ w = w' := by
  go_enter Try.func27, Try.ntmps27
  go_wp2
  go_ret
  exact ⟨rfl, rfl⟩
set_option maxHeartbeats 400000 in
theorem acc7 : Calls Try.prog 27 #[.int .i64 7] w fun e w' => e = .returned (.bool (Qn.acc 7)) ∧ w = w' := by
  go_enter Try.func27, Try.ntmps27
  go_wp2
  go_ret
  exact ⟨rfl, rfl⟩
set_option maxHeartbeats 400000 in
theorem acc8 : Calls Try.prog 27 #[.int .i64 8] w fun e w' => e = .returned (.bool (Qn.acc 8)) ∧ w = w' := by
  go_enter Try.func27, Try.ntmps27
  go_wp2
  go_ret
  exact ⟨rfl, rfl⟩
theorem acc_any (s : Nat) (hs : s ≤ 8) : Calls Try.prog 27 #[.int .i64 s] w fun e w' => e = .returned (.bool (Qn.acc s)) ∧ w = w' := by
  match s, hs with
  | 0, _ => exact acc0 w
  | 1, _ => exact acc1 w
  | 2, _ => exact acc2 w
  | 3, _ => exact acc3 w
  | 4, _ => exact acc4 w
  | 5, _ => exact acc5 w
  | 6, _ => exact acc6 w
  | 7, _ => exact acc7 w
  | 8, _ => exact acc8 w
end
theorem st_le (s : Nat) (c : Int) (s' : Nat) (h : Qn.st s c = some s') : s' ≤ 8 := by
  unfold Qn.st at h
  repeat' (split at h)
  all_goals (first | (cases h; done) | (simp only [Option.some.injEq] at h; omega))
/-- the automaton's answer -/
def dEnd (ts : List Int) (s j : Nat) : Int := endOf (Qn.res (Qn.run s (ts.drop j))) j
theorem d_step (ts : List Int) (s s' j : Nat) (h : j < ts.length) (hs : Qn.st s (ts.getD j 0) = some s') : dEnd ts s j = dEnd ts s' (j + 1) := by
  unfold dEnd
  rw [drop_at ts j h, Qn.run, hs]
  show endOf (Qn.res ((Qn.run s' (ts.drop (j + 1))).1 + 1, (Qn.run s' (ts.drop (j + 1))).2)) j = _
  rw [Qn.res_succ, endOf_map]
theorem d_stop (ts : List Int) (s j : Nat) (h : j < ts.length) (hs : Qn.st s (ts.getD j 0) = none) : dEnd ts s j = if Qn.acc s then (j : Int) else -1 := by
  unfold dEnd
  rw [drop_at ts j h, Qn.run, hs]
  show endOf (Qn.res (0, s)) j = _
  unfold Qn.res
  cases Qn.acc s <;> rfl
theorem d_end (ts : List Int) (s j : Nat) (h : ts.length ≤ j) : dEnd ts s j = if Qn.acc s then (j : Int) else -1 := by
  unfold dEnd
  rw [drop_end ts j h, Qn.run]
  unfold Qn.res
  cases Qn.acc s <;> rfl
theorem d_eq (ts : List Int) (i : Nat) : dEnd ts 0 i = nEnd ts i := by unfold dEnd nEnd; rw [Qn.run0]

set_option maxHeartbeats 1000000 in
theorem numDFA_any (b n cap : Nat) (ts : List Int) (i : Nat) (w : World) (hn : ts.length = n) (hc : Cells w b ts) (hi : i ≤ n) (hm : n ≤ 1048576) :
    Calls Try.prog 20 #[.slice (some ⟨b, 0, none⟩) n cap, .int .i64 i] w fun e w' => e = .returned (.int .i64 (nEnd ts i)) ∧ w = w' := by
  have HN : Hid (ts.length = n) := hn
  have HCs : Hid (Cells w b ts) := hc
  clear hn hc
  go_enter Try.func20, Try.ntmps20
  go_wp2
  go_loop [5, 6] (fun s j => ∃ q k : Nat, q ≤ 8 ∧ k ≤ n ∧ s = .int .i64 q ∧ j = .int .i64 k ∧ Hid (nEnd ts i = dEnd ts q k)) (fun _ j => n - (intOf j).toNat)
  case atStart => exact ⟨0, i, by omega, hi, rfl, rfl, (d_eq ts i).symm⟩
  case round =>
    obtain ⟨q, k, hq, hk, rfl, rfl, HK⟩ := hrel
    by_cases hlt : k < n
    · obtain ⟨c, hcd⟩ : ∃ c, c = ts.getD k 0 := ⟨_, rfl⟩
      have hcell : w.cell? ⟨b, k, none⟩ = some (.int .u8 c) := by rw [hcd]; exact HCs.out k (by rw [HN.out]; exact hlt)
      have hlt' : (k : Int) < (n : Int) := by omega
      have c1 := step_any c w q hq
      cases hs : Qn.st q c with
      | some q' =>
        have HD : Hid (nEnd ts i = dEnd ts q' (k + 1)) := by rw [HK.out, d_step ts q q' k (by rw [HN.out]; exact hlt) (by rw [← hcd]; exact hs)]; rfl
        have hq' := st_le q c q' hs
        have e : stI q c = (q' : Int) := by unfold stI; rw [hs]
        rw [e] at c1
        have c1' : Hid (Calls Try.prog 26 #[.int .i64 q, .int .u8 c] w fun e w' => e = .returned (.int .i64 (q' : Int)) ∧ w = w') := c1
        clear c1 e hs hcd
        go_wp2_with (go_at_call 26; refine Calls.mono (Hid.out c1') ?_; rintro e w' ⟨rfl, rfl⟩)
        go_round
        case rel => exact ⟨q', k + 1, hq', by omega, rfl, by go_num, HD⟩
        case measure => simp [intOf]; omega
      | none =>
        have HD : Hid (nEnd ts i = if Qn.acc q then (k : Int) else -1) := by rw [HK.out, d_stop ts q k (by rw [HN.out]; exact hlt) (by rw [← hcd]; exact hs)]; rfl
        have e : stI q c = -1 := by unfold stI; rw [hs]
        rw [e] at c1
        have c1' : Hid (Calls Try.prog 26 #[.int .i64 q, .int .u8 c] w fun e w' => e = .returned (.int .i64 (-1)) ∧ w = w') := c1
        have c2 := acc_any w q hq
        clear c1 e hs hcd
        cases ha : Qn.acc q with
        | true =>
          rw [ha] at c2
          have HE : Hid (nEnd ts i = (k : Int)) := by rw [HD.out, ha]; rfl
          have c2' : Hid (Calls Try.prog 27 #[.int .i64 q] w fun e w' => e = .returned (.bool true) ∧ w = w') := c2
          clear c2 ha HD
          go_wp2_with (first | (go_at_call 26; refine Calls.mono (Hid.out c1') ?_; rintro e w' ⟨rfl, rfl⟩) | (go_at_call 27; refine Calls.mono (Hid.out c2') ?_; rintro e w' ⟨rfl, rfl⟩))
          go_ret
          exact ⟨ret_i64 HE.out.symm, rfl⟩
        | false =>
          rw [ha] at c2
          have HE : Hid (nEnd ts i = -1) := by rw [HD.out, ha]; rfl
          have c2' : Hid (Calls Try.prog 27 #[.int .i64 q] w fun e w' => e = .returned (.bool false) ∧ w = w') := c2
          clear c2 ha HD
          go_wp2_with (first | (go_at_call 26; refine Calls.mono (Hid.out c1') ?_; rintro e w' ⟨rfl, rfl⟩) | (go_at_call 27; refine Calls.mono (Hid.out c2') ?_; rintro e w' ⟨rfl, rfl⟩))
          go_ret
          exact ⟨ret_i64 HE.out.symm, rfl⟩
    · have HD : Hid (nEnd ts i = if Qn.acc q then (k : Int) else -1) := by rw [HK.out, d_end ts q k (by rw [HN.out]; omega)]; rfl
      have c2 := acc_any w q hq
      cases ha : Qn.acc q with
      | true =>
        rw [ha] at c2
        have HE : Hid (nEnd ts i = (k : Int)) := by rw [HD.out, ha]; rfl
        have c2' : Hid (Calls Try.prog 27 #[.int .i64 q] w fun e w' => e = .returned (.bool true) ∧ w = w') := c2
        clear c2 ha HD
        go_wp2_with (go_at_call 27; refine Calls.mono (Hid.out c2') ?_; rintro e w' ⟨rfl, rfl⟩)
        go_ret
        exact ⟨ret_i64 HE.out.symm, rfl⟩
      | false =>
        rw [ha] at c2
        have HE : Hid (nEnd ts i = -1) := by rw [HD.out, ha]; rfl
        have c2' : Hid (Calls Try.prog 27 #[.int .i64 q] w fun e w' => e = .returned (.bool false) ∧ w = w') := c2
        clear c2 ha HD
        go_wp2_with (go_at_call 27; refine Calls.mono (Hid.out c2') ?_; rintro e w' ⟨rfl, rfl⟩)
        go_ret
        exact ⟨ret_i64 HE.out.symm, rfl⟩
end Go.Proofs.Qxb6605565a
