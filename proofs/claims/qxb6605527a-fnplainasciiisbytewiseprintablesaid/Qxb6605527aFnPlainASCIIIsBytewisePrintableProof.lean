import Derived.Test.Qxb6605527aRows
import Derived.WalkKit
import Derived.ProofKit
import Derived.OpenShut
import Derived.ShutString
import Derived.Test.Qxb6605527aPlainWalks
namespace Go.Proofs.Qxb6605527a.fnPlainASCIIIsBytewisePrintable
open Go.ChangeShapes Go.WideShapes Go.ChangeAt Go.RowKit
open Go.ChangeMaps (open_string shut_string)
set_option linter.unusedVariables false      -- a walk need not use every 'w<i>' (that an integer argument fits its kind)

theorem own : ownKnob Try.prog.godebug = none := by kernel_rfl

/-! ### THE WALK -/
theorem grown_drewN (w : World) : ∀ n, Grown w (w.drewN n) := by
  intro n
  induction n with
  | zero => exact Grown.refl _
  | succ n ih => exact ih.drew
set_option maxHeartbeats 400000 in
theorem big (a0 : ByteArray) (w0 : a0.size ≤ maxLen) (w : World) (h : 1048576 < a0.size) :
    Calls Try.prog 5 #[.string a0] w fun e w' => e = .returned (.bool true) ∧ Grown w w' := by
  unfold maxLen at w0
  go_enter Try.func5, Try.ntmps5
  go_wp2
  go_ret
  exact ⟨rfl, Grown.refl _⟩
set_option maxHeartbeats 1000000 in
theorem small (s : ByteArray) (w : World) (h : s.size ≤ 1048576) :
    Calls Try.prog 5 #[.string s] w fun e w' => e = .returned (.bool true) ∧ Grown w w' := by
  go_enter Try.func5, Try.ntmps5
  go_wp2
  go_loop [3, 4] (fun t i => ∃ k : Nat, k ≤ s.size ∧ i = .int .i64 k ∧ t = .bool (allTo s k)) (fun _ i => s.size - (intOf i).toNat)
  case atStart => exact ⟨0, Nat.zero_le _, rfl, rfl⟩
  case round =>
    obtain ⟨k, hk, rfl, rfl⟩ := hrel
    by_cases hlt : k < s.size
    · have HS : Hid _ := allTo_succ s k hlt
      cases hg : Qw.good s[k].toNat with
      | true =>
        obtain ⟨g1, g2, g3⟩ := good_int hg
        have HG : Hid _ := hg
        clear hg
        go_wp2
        go_round
        case rel => exact ⟨k + 1, by omega, by go_num, by rw [HS.out, HG.out, Bool.and_true]⟩
        case measure => simp [intOf]; omega
      | false =>
        have HF : Hid (allTo s (k + 1) = false) := by rw [HS.out, hg, Bool.and_false]; rfl
        by_cases c1 : (s[k].toNat : Int) < 32
        · clear hg
          go_wp2
          go_round
          case rel => exact ⟨k + 1, by omega, by go_num, by rw [HF.out]⟩
          case measure => simp [intOf]; omega
        · by_cases c2 : (126 : Int) < (s[k].toNat : Int)
          · clear hg
            go_wp2
            go_round
            case rel => exact ⟨k + 1, by omega, by go_num, by rw [HF.out]⟩
            case measure => simp [intOf]; omega
          · have c3 : ((s[k].toNat : Int) == 61) = true := by
              rw [beq_iff_eq]; have := bad_int hg; omega
            clear hg
            go_wp2
            go_round
            case rel => exact ⟨k + 1, by omega, by go_num, by rw [HF.out]⟩
            case measure => simp [intOf]; omega
    · have c1 : Hid _ := fun w => zzplain_any s w h
      rw [← allTo_all s k (by omega)] at c1
      generalize allTo s k = b at *
      go_wp2_with (go_at_call 14; refine (c1.out _).mono ?_; rintro e w' ⟨rfl, m, rfl⟩)
      go_ret
      exact ⟨ret_bool (by cases b <;> rfl), grown_drewN _ _⟩
theorem walk (a0 : ByteArray) (w0 : a0.size ≤ maxLen) (w : World) :
    Calls Try.prog 5 #[.string a0] w fun e w' => e = .returned (.bool true) ∧ Grown w w' := by
  by_cases hb : 1048576 < a0.size
  · exact big a0 w0 w hb
  · exact small a0 w (by omega)

/-! ### THE ROW's STEP: WRITTEN OUT: LEAVE IT -/
set_option maxRecDepth 100000 in
theorem lifted (os : Os) (started : os.Started) (H : Type) (enc : TypeId × Value → H) :
    ReturnsInHanded {} Try.checked os 5 .any (Rows.fnPlainASCIIIsBytewisePrintableSpec.pre6 enc Try.prog Try.f5 Rows.fnPlainASCIIIsBytewisePrintableRow.domain false) (Rows.fnPlainASCIIIsBytewisePrintableSpec.post enc Try.prog Try.f5 false true false false) := by
  refine returnsInHanded_of_change (C := Try.checked) own started (by kernel_rfl) Try.func5
    (ChangeSpec.witness6 (enc := enc) (C := Try.checked) false ⟨#[], #[.string ByteArray.empty], []⟩ 8 (by kernel_rfl) (by kernel_rfl) (by kernel_rfl) (by kernel_rfl)) ?_
  intro W base args ds gs before hval0 hW hcnd _
  have hval : ∀ (j : Nat) t v, Try.f5.params[j]? = some t → args[j]? = some v → Value.okWide Try.prog W .any base t v := hval0
  have hW' := hW
  obtain ⟨p, q, hA0, hV, rfl, hfz, hnd⟩ := hW
  have hA : DataW.TrodAll enc Try.prog W 0 (fun _ => true) true Try.f5.params.toList args.toList ds p := hA0
  rw [Try.params5] at hA hval
  obtain ⟨v0, vs0, d0, ds0, p0, q0, hargs, rfl, rfl, h0, r0⟩ := trodAll_cons hA
  obtain ⟨rfl, rfl, rfl⟩ := trodAll_nil r0
  obtain rfl : args = #[v0] := by cases args; simp_all
  obtain ⟨rfl, rfl⟩ := trodVars_none hV
  obtain ⟨a0, rfl, rfl, rfl, w0⟩ := open_string Try.underlying9 (hval 0 9 v0 rfl rfl) h0
  clear hA0 hval0
  simp only [List.append_nil] at hW'
  refine (walk a0 w0 W).mono fun e W' ⟨he, hg⟩ => ?_
  subst he
  exact ⟨_, rfl, post_of_same (pa := []) (pv := []) hW' (fun _ _ _ => (trodAll_cons_mk (shut_bool Try.underlying4 _) trodAll_mk0)) (fun sp _ => (trodAll_cons_mk (shut_string Try.underlying9 w0) trodAll_mk0)) (fun _ _ => rfl) rfl
    (hg.frame _) hg.2.1 (ok_one (by kernel_rfl) rfl (okWide_bool_mk Try.underlying4 _))⟩

theorem over : Rows.fnPlainASCIIIsBytewisePrintableRow.holds Try.pinned (OpenSpec.ofChange Rows.fnPlainASCIIIsBytewisePrintableSpec) :=
  OpenClaim.holds_of_wide 5 Try.f5 rfl rfl rfl rfl rfl rfl rfl ⟨rfl, rfl, rfl, rfl, rfl⟩ rfl rfl rfl rfl rfl (by kernel_rfl) Try.func5 (by kernel_rfl)
    (of_decide_eq_true (by kernel_rfl)) (by unfold Func.isWrapper; first | (rw [if_pos (by decide +kernel)]; kernel_rfl) | (rw [if_neg (by decide +kernel)]; exact ⟨rfl, rfl⟩))
    (fun os started H enc _ => lifted os started H enc)

/-- ████ THE STATEMENT ████ -/
theorem proved : Rows.FnPlainASCIIIsBytewisePrintableSaid :=
  over
#print axioms proved
end Go.Proofs.Qxb6605527a.fnPlainASCIIIsBytewisePrintable
