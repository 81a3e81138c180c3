import Derived.Test.Qxb6605527aWordWalks
namespace Go.Proofs.Qxb6605527a
open Go.RowKit

theorem bs_lt (s : ByteArray) : ∀ b ∈ bs s, b < 256 := by
  intro b hb
  unfold bs at hb
  obtain ⟨c, _, rfl⟩ := List.mem_map.1 hb
  exact byte_lt c
/-- every byte printable, none an equals sign -/
def plainS (s : ByteArray) : Bool := (bs s).all Qw.good
/-- eight bytes from k on -/
def b8 (s : ByteArray) (k : Nat) : List Nat := ((bs s).drop k).take 8
theorem b8_len (s : ByteArray) (k : Nat) (h : k + 8 ≤ s.size) : (b8 s k).length = 8 := by
  unfold b8; rw [List.length_take, List.length_drop, bs_len]; omega
theorem b8_lt (s : ByteArray) (k : Nat) : ∀ b ∈ b8 s k, b < 256 := fun b hb => bs_lt s b (List.mem_of_mem_drop (List.mem_of_mem_take hb))
theorem b8_val (s : ByteArray) (k : Nat) (h : k + 8 ≤ s.size) : Qw.val (b8 s k) < 18446744073709551616 := by
  have := Qw.val_lt _ (b8_lt s k)
  rw [b8_len s k h] at this
  simpa using this
theorem b8_eq (s : ByteArray) (k : Nat) (h : k + 8 ≤ s.size) :
    [s[k].toNat, s[k + 1].toNat, s[k + 2].toNat, s[k + 3].toNat, s[k + 4].toNat, s[k + 5].toNat, s[k + 6].toNat, s[k + 7].toNat] = b8 s k := by
  apply List.ext_getElem?
  intro i
  by_cases hi : i < 8
  · unfold b8
    rw [List.getElem?_take_of_lt hi, List.getElem?_drop, bs_get s (k + i) (by omega)]
    match i, hi with
    | 0, _ => rfl
    | 1, _ => rfl
    | 2, _ => rfl
    | 3, _ => rfl
    | 4, _ => rfl
    | 5, _ => rfl
    | 6, _ => rfl
    | 7, _ => rfl
  · rw [List.getElem?_eq_none (by simp; omega), List.getElem?_eq_none (by rw [b8_len s k h]; omega)]
theorem word_at (s : ByteArray) (k m : Nat) (w : World) (h : k + 8 ≤ s.size) (hm : m = s.size) :
    Calls Try.prog 22 #[.string (s.extract k m)] w fun e w' => e = .returned (.int .u64 ((Qw.val (b8 s k) : Nat) : Int)) ∧ ∃ n, w' = w.drewN n := by
  subst hm
  have hs : (s.extract k s.size).size = s.size - k := by simp
  have c := word_any (s.extract k s.size) w (by omega)
  simp only [ByteArray.getElem_extract, Nat.add_zero] at c
  rw [b8_eq s k h] at c
  exact c

theorem pad_call (s : ByteArray) (n : Nat) (K : Int) (hn : s.size = n) (h8 : n < 8) (hK : K = ((2314885530818453536 * 2 ^ (8 * n) : Nat) : Int)) (w : World) :
    Calls Try.prog 20 #[.int .u64 (bits BinOp.or IntKind.u64 ((Qw.val (bs s) : Nat) : Int) (IntKind.u64.wrap K))] w fun e w' => e = .returned (.bool (plainS s)) ∧ w' = w := by
  have hv : Qw.val (bs s) < 18446744073709551616 := by
    have := Qw.val_lt _ (bs_lt s)
    rw [bs_len, hn] at this
    have h2 : 256 ^ n ≤ 256 ^ 7 := Nat.pow_le_pow_right (by omega) (by omega)
    omega
  have hm : (2314885530818453536 * 2 ^ (8 * n)) % 18446744073709551616 < 18446744073709551616 := Nat.mod_lt _ (by omega)
  have e1 : IntKind.u64.wrap K = (((2314885530818453536 * 2 ^ (8 * n)) % 18446744073709551616 : Nat) : Int) := by
    rw [hK, IntKind.wrap_u64]; omega
  have e2 := Qw.pad_good (bs s) (bs_lt s) n (by rw [bs_len, hn]) h8
  rw [e1, u64_or_nat _ _ hv hm]
  unfold plainS
  rw [← e2]
  exact plainWord_any _ w (Nat.or_lt_two_pow (n := 64) hv hm)
set_option maxHeartbeats 1000000 in
theorem plain_0 (s : ByteArray) (w : World) (h : s.size = 0) :
    Calls Try.prog 18 #[.string s] w fun e w' => e = .returned (.bool (plainS s)) ∧ ∃ n, w' = w.drewN n := by
  have c0 := fun w => smallWord_any s w (by omega)
  have c1 := fun w => pad_call s 0 2314885530818453536 h (by omega) (by decide) w
  have H0 : Hid _ := c0
  have H1 : Hid _ := c1
  clear c0 c1
  generalize Qw.val (bs s) = V at *
  generalize plainS s = B at *
  go_enter Try.func18, Try.ntmps18
  go_wp2
  go_quiet ((first | (go_at_call 21; exact Calls.quiet_of (H0.out _)) | (go_at_call 20; exact Calls.quiet_of_same (H1.out _))))
  go_wp2
  go_ret
  exact ⟨rfl, nq, rfl⟩
set_option maxHeartbeats 1000000 in
theorem plain_1 (s : ByteArray) (w : World) (h : s.size = 1) :
    Calls Try.prog 18 #[.string s] w fun e w' => e = .returned (.bool (plainS s)) ∧ ∃ n, w' = w.drewN n := by
  have c0 := fun w => smallWord_any s w (by omega)
  have c1 := fun w => pad_call s 1 592610695889524105216 h (by omega) (by decide) w
  have H0 : Hid _ := c0
  have H1 : Hid _ := c1
  clear c0 c1
  generalize Qw.val (bs s) = V at *
  generalize plainS s = B at *
  go_enter Try.func18, Try.ntmps18
  go_wp2
  go_quiet ((first | (go_at_call 21; exact Calls.quiet_of (H0.out _)) | (go_at_call 20; exact Calls.quiet_of_same (H1.out _))))
  go_wp2
  go_ret
  exact ⟨rfl, nq, rfl⟩
set_option maxHeartbeats 1000000 in
theorem plain_2 (s : ByteArray) (w : World) (h : s.size = 2) :
    Calls Try.prog 18 #[.string s] w fun e w' => e = .returned (.bool (plainS s)) ∧ ∃ n, w' = w.drewN n := by
  have c0 := fun w => smallWord_any s w (by omega)
  have c1 := fun w => pad_call s 2 151708338147718170935296 h (by omega) (by decide) w
  have H0 : Hid _ := c0
  have H1 : Hid _ := c1
  clear c0 c1
  generalize Qw.val (bs s) = V at *
  generalize plainS s = B at *
  go_enter Try.func18, Try.ntmps18
  go_wp2
  go_quiet ((first | (go_at_call 21; exact Calls.quiet_of (H0.out _)) | (go_at_call 20; exact Calls.quiet_of_same (H1.out _))))
  go_wp2
  go_ret
  exact ⟨rfl, nq, rfl⟩
set_option maxHeartbeats 1000000 in
theorem plain_3 (s : ByteArray) (w : World) (h : s.size = 3) :
    Calls Try.prog 18 #[.string s] w fun e w' => e = .returned (.bool (plainS s)) ∧ ∃ n, w' = w.drewN n := by
  have c0 := fun w => smallWord_any s w (by omega)
  have c1 := fun w => pad_call s 3 38837334565815851759435776 h (by omega) (by decide) w
  have H0 : Hid _ := c0
  have H1 : Hid _ := c1
  clear c0 c1
  generalize Qw.val (bs s) = V at *
  generalize plainS s = B at *
  go_enter Try.func18, Try.ntmps18
  go_wp2
  go_quiet ((first | (go_at_call 21; exact Calls.quiet_of (H0.out _)) | (go_at_call 20; exact Calls.quiet_of_same (H1.out _))))
  go_wp2
  go_ret
  exact ⟨rfl, nq, rfl⟩
set_option maxHeartbeats 1000000 in
theorem plain_4 (s : ByteArray) (w : World) (h : s.size = 4) :
    Calls Try.prog 18 #[.string s] w fun e w' => e = .returned (.bool (plainS s)) ∧ ∃ n, w' = w.drewN n := by
  have c0 := fun w => smallWord_any s w (by omega)
  have c1 := fun w => pad_call s 4 9942357648848858050415558656 h (by omega) (by decide) w
  have H0 : Hid _ := c0
  have H1 : Hid _ := c1
  clear c0 c1
  generalize Qw.val (bs s) = V at *
  generalize plainS s = B at *
  go_enter Try.func18, Try.ntmps18
  go_wp2
  go_quiet ((first | (go_at_call 21; exact Calls.quiet_of (H0.out _)) | (go_at_call 20; exact Calls.quiet_of_same (H1.out _))))
  go_wp2
  go_ret
  exact ⟨rfl, nq, rfl⟩
set_option maxHeartbeats 1000000 in
theorem plain_5 (s : ByteArray) (w : World) (h : s.size = 5) :
    Calls Try.prog 18 #[.string s] w fun e w' => e = .returned (.bool (plainS s)) ∧ ∃ n, w' = w.drewN n := by
  have c0 := fun w => smallWord_any s w (by omega)
  have c1 := fun w => pad_call s 5 2545243558105307660906383015936 h (by omega) (by decide) w
  have H0 : Hid _ := c0
  have H1 : Hid _ := c1
  clear c0 c1
  generalize Qw.val (bs s) = V at *
  generalize plainS s = B at *
  go_enter Try.func18, Try.ntmps18
  go_wp2
  go_quiet ((first | (go_at_call 21; exact Calls.quiet_of (H0.out _)) | (go_at_call 20; exact Calls.quiet_of_same (H1.out _))))
  go_wp2
  go_ret
  exact ⟨rfl, nq, rfl⟩
set_option maxHeartbeats 1000000 in
theorem plain_6 (s : ByteArray) (w : World) (h : s.size = 6) :
    Calls Try.prog 18 #[.string s] w fun e w' => e = .returned (.bool (plainS s)) ∧ ∃ n, w' = w.drewN n := by
  have c0 := fun w => smallWord_any s w (by omega)
  have c1 := fun w => pad_call s 6 651582350874958761192034052079616 h (by omega) (by decide) w
  have H0 : Hid _ := c0
  have H1 : Hid _ := c1
  clear c0 c1
  generalize Qw.val (bs s) = V at *
  generalize plainS s = B at *
  go_enter Try.func18, Try.ntmps18
  go_wp2
  go_quiet ((first | (go_at_call 21; exact Calls.quiet_of (H0.out _)) | (go_at_call 20; exact Calls.quiet_of_same (H1.out _))))
  go_wp2
  go_ret
  exact ⟨rfl, nq, rfl⟩
set_option maxHeartbeats 1000000 in
theorem plain_7 (s : ByteArray) (w : World) (h : s.size = 7) :
    Calls Try.prog 18 #[.string s] w fun e w' => e = .returned (.bool (plainS s)) ∧ ∃ n, w' = w.drewN n := by
  have c0 := fun w => smallWord_any s w (by omega)
  have c1 := fun w => pad_call s 7 166805081823989442865160717332381696 h (by omega) (by decide) w
  have H0 : Hid _ := c0
  have H1 : Hid _ := c1
  clear c0 c1
  generalize Qw.val (bs s) = V at *
  generalize plainS s = B at *
  go_enter Try.func18, Try.ntmps18
  go_wp2
  go_quiet ((first | (go_at_call 21; exact Calls.quiet_of (H0.out _)) | (go_at_call 20; exact Calls.quiet_of_same (H1.out _))))
  go_wp2
  go_ret
  exact ⟨rfl, nq, rfl⟩
def allTo (s : ByteArray) (k : Nat) : Bool := ((bs s).take k).all Qw.good
def blk (s : ByteArray) (k : Nat) : Bool := (b8 s k).all Qw.good
theorem allTo_step (s : ByteArray) (k : Nat) : allTo s (k + 8) = (allTo s k && blk s k) := by
  unfold allTo blk b8
  rw [List.take_add, List.all_append]
theorem blk_bad (s : ByteArray) (k : Nat) (h : blk s k = false) : plainS s = false := by
  unfold blk b8 at h
  unfold plainS
  rw [← List.take_append_drop k (bs s), List.all_append, ← List.take_append_drop 8 ((bs s).drop k), List.all_append, h]
  simp
theorem plain_end (s : ByteArray) (k : Nat) (h8 : 8 ≤ s.size) (hk : s.size - 8 ≤ k) (h : allTo s k = true) : plainS s = blk s (s.size - 8) := by
  cases hb : blk s (s.size - 8) with
  | false => exact blk_bad s _ hb
  | true =>
    unfold plainS
    have e : bs s = (bs s).take (s.size - 8) ++ b8 s (s.size - 8) := by
      unfold b8
      rw [List.take_of_length_le (l := (bs s).drop (s.size - 8)) (by rw [List.length_drop, bs_len]; omega), List.take_append_drop]
    rw [e, List.all_append]
    unfold blk at hb
    rw [hb, Bool.and_true]
    unfold allTo at h
    rw [List.all_eq_true] at h ⊢
    intro x hx
    refine h x ?_
    have : (bs s).take (s.size - 8) = ((bs s).take k).take (s.size - 8) := by rw [List.take_take, Nat.min_eq_left hk]
    rw [this] at hx
    exact List.mem_of_mem_take hx
theorem blk_call (s : ByteArray) (k : Nat) (h : k + 8 ≤ s.size) (w : World) :
    Calls Try.prog 20 #[.int .u64 ((Qw.val (b8 s k) : Nat) : Int)] w fun e w' => e = .returned (.bool (blk s k)) ∧ w' = w := by
  have := plainWord_any (Qw.val (b8 s k)) w (b8_val s k h)
  rwa [Qw.bytes_good _ (b8_len s k h) (b8_lt s k)] at this

theorem plain_small (s : ByteArray) (w : World) (h : s.size < 8) :
    Calls Try.prog 18 #[.string s] w fun e w' => e = .returned (.bool (plainS s)) ∧ ∃ n, w' = w.drewN n := by
  by_cases h0 : s.size = 0
  · exact plain_0 s w h0
  · by_cases h1 : s.size = 1
    · exact plain_1 s w h1
    · by_cases h2 : s.size = 2
      · exact plain_2 s w h2
      · by_cases h3 : s.size = 3
        · exact plain_3 s w h3
        · by_cases h4 : s.size = 4
          · exact plain_4 s w h4
          · by_cases h5 : s.size = 5
            · exact plain_5 s w h5
            · by_cases h6 : s.size = 6
              · exact plain_6 s w h6
              · exact plain_7 s w (by omega)
set_option maxHeartbeats 1000000 in
theorem plain_long (s : ByteArray) (w : World) (h8 : 8 ≤ s.size) (hm : s.size ≤ 1048576) :
    Calls Try.prog 18 #[.string s] w fun e w' => e = .returned (.bool (plainS s)) ∧ ∃ n, w' = w.drewN n := by
  go_enter Try.func18, Try.ntmps18
  go_wp2
  go_loopw [3] (fun i wr => ∃ j n : Nat, j ≤ s.size ∧ i = .int .i64 j ∧ Hid (allTo s j = true) ∧ wr = w.drewN n) (fun i _ => s.size - (intOf i).toNat)
  case atStart => exact ⟨0, 0, Nat.zero_le _, rfl, rfl, rfl⟩
  case round =>
    obtain ⟨j, n, hj, rfl, HA, rfl⟩ := hrel
    by_cases hlt : j + 8 < s.size
    · have c1 : Hid _ := fun w => word_at s j s.size w (by omega) rfl
      have c2 : Hid _ := fun w => blk_call s j (by omega) w
      have HA2 : Hid _ := allTo_step s j
      have HB : Hid _ := blk_bad s j
      generalize Qw.val (b8 s j) = V at *
      generalize blk s j = B at *
      have hlt' : (j : Int) < (s.size : Int) - 8 := by omega
      cases B with
      | true =>
        clear HB
        go_wp2_with (first | (go_at_call 22; refine (c1.out _).mono ?_; rintro e w' ⟨rfl, m, rfl⟩) | (go_at_call 20; refine (c2.out _).mono ?_; rintro e w' ⟨rfl, rfl⟩))
        go_roundw
        case rel => exact ⟨j + 8, n + m, by omega, by go_num, by rw [HA2.out, HA.out]; rfl, rfl⟩
        case measure => simp [intOf]; omega
      | false =>
        have HF : Hid (plainS s = false) := HB.out rfl
        clear HB
        go_wp2_with (first | (go_at_call 22; refine (c1.out _).mono ?_; rintro e w' ⟨rfl, m, rfl⟩) | (go_at_call 20; refine (c2.out _).mono ?_; rintro e w' ⟨rfl, rfl⟩))
        go_ret
        exact ⟨ret_bool HF.out.symm, n + m, rfl⟩
    · have c1 : Hid _ := fun w => word_at s (s.size - 8) s.size w (by omega) rfl
      have c2 : Hid _ := fun w => blk_call s (s.size - 8) (by omega) w
      have HE : Hid _ := plain_end s j h8 (by omega) HA.out
      generalize Qw.val (b8 s (s.size - 8)) = V at *
      generalize blk s (s.size - 8) = B at *
      go_wp2_with (first | (go_at_call 22; refine (c1.out _).mono ?_; rintro e w' ⟨rfl, m, rfl⟩) | (go_at_call 20; refine (c2.out _).mono ?_; rintro e w' ⟨rfl, rfl⟩))
      go_ret
      exact ⟨ret_bool HE.out.symm, n + m, rfl⟩
theorem plain_any (s : ByteArray) (w : World) (hm : s.size ≤ 1048576) :
    Calls Try.prog 18 #[.string s] w fun e w' => e = .returned (.bool (plainS s)) ∧ ∃ n, w' = w.drewN n := by
  by_cases h : s.size < 8
  · exact plain_small s w h
  · exact plain_long s w (by omega) hm
set_option maxHeartbeats 400000 in
theorem zzplain_any (s : ByteArray) (w : World) (hm : s.size ≤ 1048576) :
    Calls Try.prog 14 #[.string s] w fun e w' => e = .returned (.bool (plainS s)) ∧ ∃ n, w' = w.drewN n := by
  go_enter Try.func14, Try.ntmps14
  go_wp2_with (go_at_call 18; refine (plain_any s _ hm).mono ?_; rintro e w' ⟨rfl, m, rfl⟩)
  go_ret
  exact ⟨rfl, m, rfl⟩
theorem good_int {c : UInt8} (h : Qw.good c.toNat = true) : 32 ≤ (c.toNat : Int) ∧ (c.toNat : Int) ≤ 126 ∧ ((c.toNat : Int) == 61) = false := by
  simp [Qw.good] at h
  refine ⟨by omega, by omega, beq_eq_false_iff_ne.2 (by omega)⟩
theorem bad_int {c : UInt8} (h : Qw.good c.toNat = false) : (c.toNat : Int) < 32 ∨ (126 : Int) < (c.toNat : Int) ∨ (c.toNat : Int) = 61 := by
  simp [Qw.good] at h; omega
theorem allTo_succ (s : ByteArray) (k : Nat) (h : k < s.size) : allTo s (k + 1) = (allTo s k && Qw.good s[k].toNat) := by
  unfold allTo
  have hb : k < (bs s).length := by rw [bs_len]; exact h
  have e := bs_get s k h
  rw [List.getElem?_eq_getElem hb] at e
  rw [List.take_succ_eq_append_getElem hb, List.all_append, Option.some.inj e]
  simp
theorem allTo_all (s : ByteArray) (k : Nat) (h : s.size ≤ k) : allTo s k = plainS s := by
  unfold allTo plainS; rw [List.take_of_length_le (by rw [bs_len]; exact h)]
end Go.Proofs.Qxb6605527a
