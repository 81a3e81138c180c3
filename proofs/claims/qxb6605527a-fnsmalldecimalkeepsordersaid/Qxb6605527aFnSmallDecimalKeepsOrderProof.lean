import Derived.Test.Qxb6605527aRows
import Derived.WalkKit
import Derived.ProofKit
import Derived.OpenShut
import Derived.ShutString
import Derived.Test.Qxb6605527aDecWalks
namespace Go.Proofs.Qxb6605527a.fnSmallDecimalKeepsOrder
open Go.ChangeShapes Go.WideShapes Go.ChangeAt Go.RowKit
open Go.ChangeMaps (open_string shut_string)
set_option linter.unusedVariables false      -- a walk need not use every 'w<i>' (that an integer argument fits its kind)

theorem own : ownKnob Try.prog.godebug = none := by kernel_rfl

/-! ### THE PLAIN LAW -/
theorem less_eq : ∀ l m : List UInt8, l.length = m.length → Op.bytesLess l m = Qd.less l m := by
  intro l
  induction l with
  | nil => intro m h; cases m with | nil => rfl | cons _ _ => simp at h
  | cons a t ih =>
    intro m h
    cases m with
    | nil => simp at h
    | cons b u =>
      have := ih u (by simpa using h)
      simp only [Op.bytesLess, Qd.less, this]
      have e1 : decide (a < b) = decide (a.toNat < b.toNat) := decide_eq_decide.2 UInt8.lt_iff_toNat_lt
      have e2 : (a == b) = decide (a = b) := rfl
      rw [e1, e2]
theorem toList_data (s : ByteArray) : s.toList = s.data.toList := ByteArray.toList_eq s
theorem sdN_of {s : ByteArray} (h : sdOk s = true) : sdN s = Qd.num s.data.toList := by unfold sdN; rw [if_pos h]
theorem sd_less (s t : ByteArray) (hs : sdOk s = true) (ht : sdOk t = true) (hl : s.size = t.size) :
    decide (sdN s < sdN t) = Op.bytesLess s.toList t.toList := by
  rw [sdN_of hs, sdN_of ht, toList_data, toList_data, less_eq _ _ (by simpa using hl)]
  simp [sdOk] at hs ht
  exact Qd.num_less _ _ (by simpa using hl) hs.2.2 ht.2.2
theorem sd_eq (s t : ByteArray) (hs : sdOk s = true) (ht : sdOk t = true) (hl : s.size = t.size) (h : sdN s = sdN t) : s = t := by
  rw [sdN_of hs, sdN_of ht] at h
  simp [sdOk] at hs ht
  have := Qd.num_inj _ _ (by simpa using hl) hs.2.2 ht.2.2 h
  exact ByteArray.ext (Array.toList_inj.1 this)

/-! ### THE WALK -/
set_option maxHeartbeats 400000 in
theorem big (a0 : ByteArray) (a1 : ByteArray) (w0 : a0.size ≤ maxLen) (w1 : a1.size ≤ maxLen) (w : World) (h : 1048576 < a0.size + a1.size) :
    Calls Try.prog 4 #[.string a0, .string a1] w fun e w' => e = .returned (.bool true) ∧ Grown w w' := by
  unfold maxLen at w0 w1
  by_cases h0 : 1048576 < a0.size
  · go_enter Try.func4, Try.ntmps4
    go_wp2
    go_ret
    exact ⟨rfl, Grown.refl _⟩
  · by_cases h1 : 1048576 < a1.size
    · go_enter Try.func4, Try.ntmps4
      go_wp2
      go_ret
      exact ⟨rfl, Grown.refl _⟩
    · go_enter Try.func4, Try.ntmps4
      go_wp2
      go_ret
      exact ⟨rfl, Grown.refl _⟩
set_option maxHeartbeats 400000 in
theorem odd (a0 : ByteArray) (a1 : ByteArray) (w : World) (h : a0.size + a1.size ≤ 1048576) (hl : a0.size ≠ a1.size ∨ a0.size < 1 ∨ 9 < a0.size) :
    Calls Try.prog 4 #[.string a0, .string a1] w fun e w' => e = .returned (.bool true) ∧ Grown w w' := by
  have hi : (a0.size : Int) + (a1.size : Int) ≤ 1048576 := by omega
  have i0 : (a0.size : Int) ≤ 1048576 := by omega
  have i1 : (a1.size : Int) ≤ 1048576 := by omega
  by_cases he : a0.size = a1.size
  · have b1 : ((a0.size : Int) != (a1.size : Int)) = false := by rw [bne_eq_false_iff_eq]; omega
    have HE : Hid (a0.size = a1.size) := he
    by_cases h1 : a0.size < 1
    · clear he
      go_enter Try.func4, Try.ntmps4
      go_wp2
      go_ret
      exact ⟨rfl, Grown.refl _⟩
    · have h9 : 9 < a0.size := by omega
      clear he
      go_enter Try.func4, Try.ntmps4
      go_wp2
      go_ret
      exact ⟨rfl, Grown.refl _⟩
  · have b1 : ((a0.size : Int) != (a1.size : Int)) = true := by rw [bne_iff_ne]; omega
    clear hl
    go_enter Try.func4, Try.ntmps4
    go_wp2
    go_ret
    exact ⟨rfl, Grown.refl _⟩
set_option maxHeartbeats 400000 in
theorem undig (a0 : ByteArray) (a1 : ByteArray) (w : World) (hl : a0.size = a1.size) (h1 : 1 ≤ a0.size) (h9 : a0.size ≤ 9) (hd : digs a0 = false ∨ digs a1 = false) :
    Calls Try.prog 4 #[.string a0, .string a1] w fun e w' => e = .returned (.bool true) ∧ Grown w w' := by
  have b1 : ((a0.size : Int) != (a1.size : Int)) = false := by rw [bne_eq_false_iff_eq]; omega
  have h91 : a1.size ≤ 9 := by omega
  have m0 : a0.size ≤ maxLen := by unfold maxLen; omega
  have m1 : a1.size ≤ maxLen := by unfold maxLen; omega
  clear hl
  cases d0 : digs a0 with
  | false =>
    clear hd
    go_enter Try.func4, Try.ntmps4
    go_wp2_with (first | (go_at_call 9; refine (digitsOnly_any _ _ (by assumption)).mono ?_; rintro e w' ⟨rfl, rfl⟩) | go_in)
    go_ret
    exact ⟨rfl, Grown.refl _⟩
  | true =>
    have d1 : digs a1 = false := hd.elim (fun h => by rw [d0] at h; cases h) id
    clear hd
    go_enter Try.func4, Try.ntmps4
    go_wp2_with (first | (go_at_call 9; refine (digitsOnly_any _ _ (by assumption)).mono ?_; rintro e w' ⟨rfl, rfl⟩) | go_in)
    go_ret
    exact ⟨rfl, Grown.refl _⟩
set_option maxHeartbeats 400000 in
theorem good (a0 : ByteArray) (a1 : ByteArray) (w : World) (hl : a0.size = a1.size) (h1 : 1 ≤ a0.size) (h9 : a0.size ≤ 9) (d0 : digs a0 = true) (d1 : digs a1 = true) :
    Calls Try.prog 4 #[.string a0, .string a1] w fun e w' => e = .returned (.bool true) ∧ Grown w w' := by
  have b1 : ((a0.size : Int) != (a1.size : Int)) = false := by rw [bne_eq_false_iff_eq]; omega
  have h91 : a1.size ≤ 9 := by omega
  have m0 : a0.size ≤ maxLen := by unfold maxLen; omega
  have m1 : a1.size ≤ maxLen := by unfold maxLen; omega
  have o0 : sdOk a0 = true := by simp [sdOk, h1, h9, d0]
  have o1 : sdOk a1 = true := by simp [sdOk, h91, d1]; omega
  have hless := sd_less a0 a1 o0 o1 hl
  have heq := sd_eq a0 a1 o0 o1 hl
  clear hl
  by_cases c : sdN a0 = sdN a1
  · obtain rfl := heq c
    clear c
    have hf : Op.bytesLess a0.toList a0.toList = false := by rw [← hless]; simp
    clear hless heq
    go_enter Try.func4, Try.ntmps4
    go_wp2_with (first | (go_at_call 9; refine (digitsOnly_any _ _ (by assumption)).mono ?_; rintro e w' ⟨rfl, rfl⟩) | (go_at_call 8; refine (zzsmall_any _ _).mono ?_; rintro e w' ⟨rfl, rfl⟩) | go_in)
    go_ret
    exact ⟨rfl, Grown.refl _⟩
  · have hne : (a0.toList == a1.toList) = false := by
      rw [beq_eq_false_iff_ne]; intro h
      rw [toList_data, toList_data] at h
      exact c (by rw [ByteArray.ext (Array.toList_inj.1 h)])
    have hb : ((sdN a0 : Int) == (sdN a1 : Int)) = false := beq_eq_false_iff_ne.2 (by omega)
    have hdec : decide ((sdN a0 : Int) < (sdN a1 : Int)) = Op.bytesLess a0.toList a1.toList := by
      rw [← hless, decide_eq_decide]; omega
    clear hless heq c
    by_cases lt : (sdN a0 : Int) < (sdN a1 : Int)
    · have hbl : Op.bytesLess a0.toList a1.toList = true := by rw [← hdec]; simpa using lt
      clear hdec
      go_enter Try.func4, Try.ntmps4
      go_wp2_with (first | (go_at_call 9; refine (digitsOnly_any _ _ (by assumption)).mono ?_; rintro e w' ⟨rfl, rfl⟩) | (go_at_call 8; refine (zzsmall_any _ _).mono ?_; rintro e w' ⟨rfl, rfl⟩) | go_in)
      go_ret
      exact ⟨rfl, Grown.refl _⟩
    · have hbl : Op.bytesLess a0.toList a1.toList = false := by rw [← hdec]; simpa using lt
      clear hdec
      go_enter Try.func4, Try.ntmps4
      go_wp2_with (first | (go_at_call 9; refine (digitsOnly_any _ _ (by assumption)).mono ?_; rintro e w' ⟨rfl, rfl⟩) | (go_at_call 8; refine (zzsmall_any _ _).mono ?_; rintro e w' ⟨rfl, rfl⟩) | go_in)
      go_ret
      exact ⟨ret_bool (by simp; omega), Grown.refl _⟩
theorem walk (a0 : ByteArray) (a1 : ByteArray) (w0 : a0.size ≤ maxLen) (w1 : a1.size ≤ maxLen) (w : World) :
    Calls Try.prog 4 #[.string a0, .string a1] w fun e w' => e = .returned (.bool true) ∧ Grown w w' := by
  by_cases hb : 1048576 < a0.size + a1.size
  · exact big a0 a1 w0 w1 w hb
  · by_cases ho : a0.size ≠ a1.size ∨ a0.size < 1 ∨ 9 < a0.size
    · exact odd a0 a1 w (by omega) ho
    · have hl : a0.size = a1.size := by omega
      cases d0 : digs a0 with
      | false => exact undig a0 a1 w hl (by omega) (by omega) (.inl d0)
      | true =>
        cases d1 : digs a1 with
        | false => exact undig a0 a1 w hl (by omega) (by omega) (.inr d1)
        | true => exact good a0 a1 w hl (by omega) (by omega) d0 d1

/-! ### THE ROW's STEP: WRITTEN OUT: LEAVE IT -/
set_option maxRecDepth 100000 in
theorem lifted (os : Os) (started : os.Started) (H : Type) (enc : TypeId × Value → H) :
    ReturnsInHanded {} Try.checked os 4 .any (Rows.fnSmallDecimalKeepsOrderSpec.pre6 enc Try.prog Try.f4 Rows.fnSmallDecimalKeepsOrderRow.domain false) (Rows.fnSmallDecimalKeepsOrderSpec.post enc Try.prog Try.f4 false true false false) := by
  refine returnsInHanded_of_change (C := Try.checked) own started (by kernel_rfl) Try.func4
    (ChangeSpec.witness6 (enc := enc) (C := Try.checked) false ⟨#[], #[.string ByteArray.empty, .string ByteArray.empty], []⟩ 8 (by kernel_rfl) (by kernel_rfl) (by kernel_rfl) (by kernel_rfl)) ?_
  intro W base args ds gs before hval0 hW hcnd _
  have hval : ∀ (j : Nat) t v, Try.f4.params[j]? = some t → args[j]? = some v → Value.okWide Try.prog W .any base t v := hval0
  have hW' := hW
  obtain ⟨p, q, hA0, hV, rfl, hfz, hnd⟩ := hW
  have hA : DataW.TrodAll enc Try.prog W 0 (fun _ => true) true Try.f4.params.toList args.toList ds p := hA0
  rw [Try.params4] at hA hval
  obtain ⟨v0, vs0, d0, ds0, p0, q0, hargs, rfl, rfl, h0, r0⟩ := trodAll_cons hA
  obtain ⟨v1, vs1, d1, ds1, p1, q1, rfl, rfl, rfl, h1, r1⟩ := trodAll_cons r0
  obtain ⟨rfl, rfl, rfl⟩ := trodAll_nil r1
  obtain rfl : args = #[v0, v1] := by cases args; simp_all
  obtain ⟨rfl, rfl⟩ := trodVars_none hV
  obtain ⟨a0, rfl, rfl, rfl, w0⟩ := open_string Try.underlying9 (hval 0 9 v0 rfl rfl) h0
  obtain ⟨a1, rfl, rfl, rfl, w1⟩ := open_string Try.underlying9 (hval 1 9 v1 rfl rfl) h1
  clear hA0 hval0
  simp only [List.append_nil] at hW'
  refine (walk a0 a1 w0 w1 W).mono fun e W' ⟨he, hg⟩ => ?_
  subst he
  exact ⟨_, rfl, post_of_same (pa := []) (pv := []) hW' (fun _ _ _ => (trodAll_cons_mk (shut_bool Try.underlying4 _) trodAll_mk0)) (fun sp _ => (trodAll_cons_mk (shut_string Try.underlying9 w0) (trodAll_cons_mk (shut_string Try.underlying9 w1) trodAll_mk0))) (fun _ _ => rfl) rfl
    (hg.frame _) hg.2.1 (ok_one (by kernel_rfl) rfl (okWide_bool_mk Try.underlying4 _))⟩

theorem over : Rows.fnSmallDecimalKeepsOrderRow.holds Try.pinned (OpenSpec.ofChange Rows.fnSmallDecimalKeepsOrderSpec) :=
  OpenClaim.holds_of_wide 4 Try.f4 rfl rfl rfl rfl rfl rfl rfl ⟨rfl, rfl, rfl, rfl, rfl⟩ rfl rfl rfl rfl rfl (by kernel_rfl) Try.func4 (by kernel_rfl)
    (of_decide_eq_true (by kernel_rfl)) (by unfold Func.isWrapper; first | (rw [if_pos (by decide +kernel)]; kernel_rfl) | (rw [if_neg (by decide +kernel)]; exact ⟨rfl, rfl⟩))
    (fun os started H enc _ => lifted os started H enc)

/-- ████ THE STATEMENT ████ -/
theorem proved : Rows.FnSmallDecimalKeepsOrderSaid :=
  over
#print axioms proved
end Go.Proofs.Qxb6605527a.fnSmallDecimalKeepsOrder
