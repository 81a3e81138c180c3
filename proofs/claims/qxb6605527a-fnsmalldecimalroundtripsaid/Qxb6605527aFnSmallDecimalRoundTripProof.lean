import Derived.Test.Qxb6605527aRows
import Derived.WalkKit
import Derived.ProofKit
import Derived.OpenShut
import Derived.ShutString
import Derived.Test.Qxb6605527aPadWalks
namespace Go.Proofs.Qxb6605527a.fnSmallDecimalRoundTrip
open Go.ChangeShapes Go.WideShapes Go.ChangeAt Go.RowKit
open Go.ChangeMaps (open_string shut_string)
set_option linter.unusedVariables false      -- a walk need not use every 'w<i>' (that an integer argument fits its kind)

theorem own : ownKnob Try.prog.godebug = none := by kernel_rfl

/-! ### THE PLAIN LAW -/
theorem sdN_of {s : ByteArray} (h : sdOk s = true) : sdN s = Qd.num s.data.toList := by unfold sdN; rw [if_pos h]
theorem sd_lt (s : ByteArray) (h : sdOk s = true) : sdN s < 10 ^ s.size := by
  rw [sdN_of h]
  simp [sdOk] at h
  have := Qd.num_lt _ h.2.2
  simpa using this
theorem sd_back (s : ByteArray) (h : sdOk s = true) : (⟨(Qd.pad (sdN s) s.size).toArray⟩ : ByteArray) = s := by
  rw [sdN_of h]
  simp [sdOk] at h
  have := Qd.pad_num _ h.2.2
  apply ByteArray.ext
  apply Array.toList_inj.1
  simpa using this
theorem back (s : ByteArray) (w : World) (h : sdOk s = true) :
    Calls Try.prog 11 #[.int .u64 (sdN s), .int .i64 s.size] w fun e w' => e = .returned (.string s) ∧ Grown w w' := by
  have h9 : s.size ≤ 9 := by simp [sdOk] at h; exact h.2.1
  have hl := sd_lt s h
  have hp := pow_le9 s.size h9
  have := zeroPadded_any (sdN s) s.size w h9 (by omega)
  rwa [sd_back s h] at this

/-! ### THE WALK -/
set_option maxHeartbeats 400000 in
theorem big (a0 : ByteArray) (w0 : a0.size ≤ maxLen) (w : World) (h : 1048576 < a0.size) :
    Calls Try.prog 3 #[.string a0] w fun e w' => e = .returned (.bool true) ∧ Grown w w' := by
  unfold maxLen at w0
  go_enter Try.func3, Try.ntmps3
  go_wp2
  go_ret
  exact ⟨rfl, Grown.refl _⟩
set_option maxHeartbeats 400000 in
theorem empty (a0 : ByteArray) (w : World) (h : a0.size = 0) :
    Calls Try.prog 3 #[.string a0] w fun e w' => e = .returned (.bool true) ∧ Grown w w' := by
  have o : sdOk a0 = false := by simp [sdOk, h]
  have n : sdN a0 = 0 := by unfold sdN; rw [o]; rfl
  obtain rfl : a0 = ByteArray.empty := ByteArray.size_eq_zero_iff.1 h
  clear h
  have c := fun w => zzsmall_any ByteArray.empty w
  rw [o, n] at c
  have HC : Hid _ := c
  clear c o n
  go_enter Try.func3, Try.ntmps3
  go_wp2_with (first | (go_at_call 8; refine (HC.out _).mono ?_; rintro e w' ⟨rfl, rfl⟩) | go_in)
  go_ret
  exact ⟨rfl, Grown.refl _⟩
set_option maxHeartbeats 400000 in
theorem long (a0 : ByteArray) (w : World) (h : 9 < a0.size) (hb : a0.size ≤ 1048576) :
    Calls Try.prog 3 #[.string a0] w fun e w' => e = .returned (.bool true) ∧ Grown w w' := by
  have o : sdOk a0 = false := by simp [sdOk]; omega
  have n : sdN a0 = 0 := by unfold sdN; rw [o]; rfl
  have c := fun w => zzsmall_any a0 w
  rw [o, n] at c
  have HC : Hid _ := c
  clear c o n
  have h1 : (1 : Int) ≤ (a0.size : Int) := by omega
  have h9 : decide ((a0.size : Int) ≤ 9) = false := decide_eq_false (by omega)
  go_enter Try.func3, Try.ntmps3
  go_wp2_with (first | (go_at_call 8; refine (HC.out _).mono ?_; rintro e w' ⟨rfl, rfl⟩) | go_in)
  go_ret
  exact ⟨rfl, Grown.refl _⟩
set_option maxHeartbeats 400000 in
theorem undig (a0 : ByteArray) (w : World) (h1 : 1 ≤ a0.size) (h9 : a0.size ≤ 9) (hd : digs a0 = false) :
    Calls Try.prog 3 #[.string a0] w fun e w' => e = .returned (.bool true) ∧ Grown w w' := by
  have m0 : a0.size ≤ maxLen := by unfold maxLen; omega
  have o : sdOk a0 = false := by simp [sdOk, hd]
  have n : sdN a0 = 0 := by unfold sdN; rw [o]; rfl
  have c := fun w => zzsmall_any a0 w
  rw [o, n] at c
  have HC : Hid _ := c
  clear c o n
  have h1' : (1 : Int) ≤ (a0.size : Int) := by omega
  have h9' : (a0.size : Int) ≤ 9 := by omega
  go_enter Try.func3, Try.ntmps3
  go_wp2_with (first | (go_at_call 8; refine (HC.out _).mono ?_; rintro e w' ⟨rfl, rfl⟩) | (go_at_call 9; refine (digitsOnly_any _ _ m0).mono ?_; rintro e w' ⟨rfl, rfl⟩) | go_in)
  go_ret
  exact ⟨rfl, Grown.refl _⟩
set_option maxHeartbeats 400000 in
theorem good (a0 : ByteArray) (w : World) (h1 : 1 ≤ a0.size) (h9 : a0.size ≤ 9) (hd : digs a0 = true) :
    Calls Try.prog 3 #[.string a0] w fun e w' => e = .returned (.bool true) ∧ Grown w w' := by
  have m0 : a0.size ≤ maxLen := by unfold maxLen; omega
  have o : sdOk a0 = true := by simp [sdOk, hd, h1, h9]
  have hlt : ((sdN a0 : Nat) : Int) < ((10 ^ a0.size : Nat) : Int) := Int.ofNat_lt.2 (sd_lt a0 o)
  have c1 := fun w => zzsmall_any a0 w
  rw [o] at c1
  have HC1 : Hid _ := c1
  have c2 := fun w => tenTo_any a0.size w h9
  have HC2 : Hid _ := c2
  have c3 := fun w => back a0 w o
  have HC3 : Hid _ := c3
  clear c1 c2 c3 o
  generalize 10 ^ a0.size = q at *
  have h1' : (1 : Int) ≤ (a0.size : Int) := by omega
  have h9' : (a0.size : Int) ≤ 9 := by omega
  go_enter Try.func3, Try.ntmps3
  go_wp2_with (first | (go_at_call 8; refine (HC1.out _).mono ?_; rintro e w' ⟨rfl, rfl⟩) | (go_at_call 9; refine (digitsOnly_any _ _ m0).mono ?_; rintro e w' ⟨rfl, rfl⟩) | (go_at_call 10; refine (HC2.out _).mono ?_; rintro e w' ⟨rfl, rfl⟩) | (go_at_call 11; refine (HC3.out _).mono ?_; rintro e w' ⟨rfl, hg⟩) | go_in)
  go_ret
  exact ⟨rfl, by assumption⟩
theorem walk (a0 : ByteArray) (w0 : a0.size ≤ maxLen) (w : World) :
    Calls Try.prog 3 #[.string a0] w fun e w' => e = .returned (.bool true) ∧ Grown w w' := by
  by_cases hb : 1048576 < a0.size
  · exact big a0 w0 w hb
  · by_cases h0 : a0.size = 0
    · exact empty a0 w h0
    · by_cases h9 : 9 < a0.size
      · exact long a0 w h9 (by omega)
      · cases d0 : digs a0 with
        | false => exact undig a0 w (by omega) (by omega) d0
        | true => exact good a0 w (by omega) (by omega) d0

/-! ### THE ROW's STEP: WRITTEN OUT: LEAVE IT -/
set_option maxRecDepth 100000 in
theorem lifted (os : Os) (started : os.Started) (H : Type) (enc : TypeId × Value → H) :
    ReturnsInHanded {} Try.checked os 3 .any (Rows.fnSmallDecimalRoundTripSpec.pre6 enc Try.prog Try.f3 Rows.fnSmallDecimalRoundTripRow.domain false) (Rows.fnSmallDecimalRoundTripSpec.post enc Try.prog Try.f3 false true false false) := by
  refine returnsInHanded_of_change (C := Try.checked) own started (by kernel_rfl) Try.func3
    (ChangeSpec.witness6 (enc := enc) (C := Try.checked) false ⟨#[], #[.string ByteArray.empty], []⟩ 8 (by kernel_rfl) (by kernel_rfl) (by kernel_rfl) (by kernel_rfl)) ?_
  intro W base args ds gs before hval0 hW hcnd _
  have hval : ∀ (j : Nat) t v, Try.f3.params[j]? = some t → args[j]? = some v → Value.okWide Try.prog W .any base t v := hval0
  have hW' := hW
  obtain ⟨p, q, hA0, hV, rfl, hfz, hnd⟩ := hW
  have hA : DataW.TrodAll enc Try.prog W 0 (fun _ => true) true Try.f3.params.toList args.toList ds p := hA0
  rw [Try.params3] at hA hval
  obtain ⟨v0, vs0, d0, ds0, p0, q0, hargs, rfl, rfl, h0, r0⟩ := trodAll_cons hA
  obtain ⟨rfl, rfl, rfl⟩ := trodAll_nil r0
  obtain rfl : args = #[v0] := by cases args; simp_all
  obtain ⟨rfl, rfl⟩ := trodVars_none hV
  obtain ⟨a0, rfl, rfl, rfl, w0⟩ := open_string Try.underlying9 (hval 0 9 v0 rfl rfl) h0
  clear hA0 hval0
  simp only [List.append_nil] at hW'
  refine (walk a0 w0 W).mono fun e W' ⟨he, hg⟩ => ?_
  subst he
  exact ⟨_, rfl, post_of_same (pa := []) (pv := []) hW' (fun _ _ _ => (trodAll_cons_mk (shut_bool Try.underlying4 _) trodAll_mk0)) (fun sp _ => (trodAll_cons_mk (shut_string Try.underlying9 w0) trodAll_mk0)) (fun _ _ => rfl) rfl
    (hg.frame _) hg.2.1 (ok_one (by kernel_rfl) rfl (okWide_bool_mk Try.underlying4 _))⟩

theorem over : Rows.fnSmallDecimalRoundTripRow.holds Try.pinned (OpenSpec.ofChange Rows.fnSmallDecimalRoundTripSpec) :=
  OpenClaim.holds_of_wide 3 Try.f3 rfl rfl rfl rfl rfl rfl rfl ⟨rfl, rfl, rfl, rfl, rfl⟩ rfl rfl rfl rfl rfl (by kernel_rfl) Try.func3 (by kernel_rfl)
    (of_decide_eq_true (by kernel_rfl)) (by unfold Func.isWrapper; first | (rw [if_pos (by decide +kernel)]; kernel_rfl) | (rw [if_neg (by decide +kernel)]; exact ⟨rfl, rfl⟩))
    (fun os started H enc _ => lifted os started H enc)

/-- ████ THE STATEMENT ████ -/
theorem proved : Rows.FnSmallDecimalRoundTripSaid :=
  over
#print axioms proved
end Go.Proofs.Qxb6605527a.fnSmallDecimalRoundTrip
