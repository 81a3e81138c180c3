import Derived.Test.Qxb6605527aRows
import Derived.WalkKit
import Derived.ProofKit
import Derived.OpenShut
import Derived.ShutString
import Derived.SliceStrings
import Derived.Carry
import Derived.Test.Qxb6605527aDtLaw
import Derived.Test.Qxb6605527aDtRest
namespace Go.Proofs.Qxb6605527a.fnDefaultTextListsSortedEntries
open Go.ChangeShapes Go.WideShapes Go.ChangeAt Go.RowKit
set_option linter.unusedVariables false

theorem own : ownKnob Try.prog.godebug = none := by kernel_rfl
theorem laidOut : laidOutB Try.prog = true := by kernel_rfl
theorem cells9 : Try.prog.cellsOf 9 = 1 := by kernel_rfl

/-- what the walk is told of a slice of strings -/
structure Opened (W : World) (a : Option Addr) (n c b o : Nat) (x : Nat → ByteArray) : Prop where
  nil : a = none → n = 0 ∧ c = 0
  addr : 0 < n → a = some ⟨b, o, none⟩ ∧ b < W.heap.size
  len : n ≤ maxLen
  cell : ∀ j, j < n → W.cell? ⟨b, o + j, none⟩ = some (.string (x j))
  size : ∀ j, j < n → (x j).size ≤ maxLen

theorem opened {H : Type} {enc : TypeId × Value → H} {W : World} {d : DataW H} {ps : List MemPlace} {a : Option Addr} {n c : Nat}
    (h : DataW.Trod enc Try.prog W 0 (fun _ => true) true 29 (.slice a n c) d ps) (hlt : ∀ x ∈ ps, x.block < W.heap.size) : ∃ b o x, Opened W a n c b o x := by
  obtain ⟨fuel, hf⟩ := h
  rcases open_strings Try.underlying29 Try.underlying9 cells9 hf with ⟨hcs, hx⟩ | ⟨ad, len', cap', ss, hcs, _, hl, hm, hz, hx, hcell, hws⟩
  · simp [Value.cells] at hcs
    obtain ⟨rfl, rfl, rfl⟩ := hcs
    exact ⟨0, 0, fun _ => ByteArray.empty, fun _ => ⟨rfl, rfl⟩, fun h => absurd h (by omega), Nat.zero_le _, fun j hj => absurd hj (by omega), fun j hj => absurd hj (by omega)⟩
  · simp [Value.cells] at hcs
    obtain ⟨rfl, rfl, rfl⟩ := hcs
    simp only [Prod.mk.injEq] at hx
    obtain ⟨rfl, rfl⟩ := hx
    simp only [if_true] at hz
    by_cases hl0 : n = 0
    · subst hl0
      exact ⟨0, 0, fun _ => ByteArray.empty, fun h => (by cases h), fun h => absurd h (by omega), Nat.zero_le _, fun j hj => absurd hj (by omega), fun j hj => absurd hj (by omega)⟩
    · obtain ⟨b, off, spot⟩ := ad
      have hspot : spot = none := by simpa [Addr.add] using World.cell?_spot (hcell 0 (by omega))
      subst hspot
      have hbW : b < W.heap.size := hlt (.cell b off) (MemPlace.mem_row.2 ⟨0, by omega, by simp⟩)
      refine ⟨b, off, fun j => ss.getD j ByteArray.empty, fun h => (by cases h), fun _ => ⟨rfl, hbW⟩, Nat.le_trans hl hm, fun j hj => ?_, fun j hj => ?_⟩
      · rw [← add_plain]; exact hcell j (by omega)
      · have hj' : j < ss.length := by omega
        have : ss.getD j ByteArray.empty = ss[j] := by simp [List.getD, hj']
        rw [this]; exact hws _ (List.getElem_mem hj')

/-! ### THE WALK -/
theorem walk (W : World) (a0 a1 : Option Addr) (n0 c0 b0 o0 n1 c1 b1 o1 : Nat) (x y : Nat → ByteArray) (h0 : Opened W a0 n0 c0 b0 o0 x) (h1 : Opened W a1 n1 c1 b1 o1 y) :
    Calls Try.prog 6 #[.slice a0 n0 c0, .slice a1 n1 c1] W fun e w' => e = .returned (.bool true) ∧ Below W.heap.size W w' := by
  have hz := zz_any a0 a1 b0 o0 n0 c0 b1 o1 n1 c1 x y W h0.len h1.len (fun h => (h0.addr h).1) (fun h => (h1.addr h).1) h0.cell h1.cell h0.size h1.size
  by_cases ht : (4096 : Int) < n0 ∨ n1 ≠ n0
  · exact law_triv a0 a1 n0 c0 n1 c1 W ht hz
  · have hn : n0 ≤ 4096 := by omega
    obtain rfl : n1 = n0 := by omega
    by_cases hp : 0 < n1
    · obtain ⟨e0, hb0⟩ := h0.addr hp
      obtain ⟨e1, hb1⟩ := h1.addr hp
      subst e0; subst e1
      exact law_any b0 o0 n1 c0 b1 o1 c1 x y W hn hb0 hb1 h0.cell h1.cell h0.size h1.size
    · obtain rfl : n1 = 0 := by omega
      cases a0 with
      | none =>
        obtain ⟨_, rfl⟩ := h0.nil rfl
        exact law_nil a1 c1 W hz
      | some a => exact law_empty a a1 c0 c1 W hz

/-! ### THE ROW's STEP -/
set_option maxRecDepth 100000 in
theorem lifted (os : Os) (started : os.Started) (H : Type) (enc : TypeId × Value → H) :
    ReturnsInHanded {} Try.checked os 6 .any (Rows.fnDefaultTextListsSortedEntriesSpec.pre6 enc Try.prog Try.f6 Rows.fnDefaultTextListsSortedEntriesRow.domain false) (Rows.fnDefaultTextListsSortedEntriesSpec.post enc Try.prog Try.f6 false true false false) := by
  refine returnsInHanded_of_change (C := Try.checked) own started (by kernel_rfl) Try.func6
    (ChangeSpec.witness6 (enc := enc) (C := Try.checked) false ⟨#[], #[.slice none 0 0, .slice none 0 0], []⟩ 8 (by kernel_rfl) (by kernel_rfl) (by kernel_rfl) (by kernel_rfl)) ?_
  intro W base args ds gs before hval0 hW hcnd _
  have hval : ∀ (j : Nat) t v, Try.f6.params[j]? = some t → args[j]? = some v → Value.okWide Try.prog W .any base t v := hval0
  have hW' := hW
  obtain ⟨p, q, hA0, hV, rfl, hfz, hnd⟩ := hW
  have hA : DataW.TrodAll enc Try.prog W 0 (fun _ => true) true Try.f6.params.toList args.toList ds p := hA0
  rw [Try.params6] at hA hval
  obtain ⟨v0, vs0, d0, ds0, p0, q0, hargs, rfl, rfl, t0, r0⟩ := trodAll_cons hA
  obtain ⟨v1, vs1, d1, ds1, p1, q1, rfl, rfl, rfl, t1, r1⟩ := trodAll_cons r0
  obtain ⟨rfl, rfl, rfl⟩ := trodAll_nil r1
  obtain rfl : args = #[v0, v1] := by cases args; simp_all
  obtain ⟨rfl, rfl⟩ := trodVars_none hV
  obtain ⟨a0, n0, c0, rfl⟩ := okWide_slice Try.underlying29 (hval 0 29 v0 rfl rfl)
  obtain ⟨a1, n1, c1, rfl⟩ := okWide_slice Try.underlying29 (hval 1 29 v1 rfl rfl)
  clear hA0 hval0
  simp only [List.append_nil] at hW'
  have hlt : ∀ x ∈ p0 ++ p1, x.block < W.heap.size := fun x hx => by simpa using hW'.lt x hx
  have hl0 : ∀ x ∈ p0, x.block < W.heap.size := fun x hx => hlt x (List.mem_append_left _ hx)
  have hl1 : ∀ x ∈ p1, x.block < W.heap.size := fun x hx => hlt x (List.mem_append_right _ hx)
  obtain ⟨b0, o0, x, O0⟩ := opened t0 hl0
  obtain ⟨b1, o1, y, O1⟩ := opened t1 hl1
  refine (walk W a0 a1 n0 c0 b0 o0 n1 c1 b1 o1 x y O0 O1).mono fun e W' ⟨he, hg⟩ => ?_
  subst he
  refine ⟨_, rfl, _, _, _, [], p0 ++ p1, [], hW', ?_, ?_, rfl, hg.frame _, fun h => by cases h⟩
  · exact trodAll_cons_mk (shut_bool Try.underlying4 _) trodAll_mk0
  · have e0 := Below.trod laidOut (by kernel_rfl) (of_decide_eq_true (by kernel_rfl)) t0 hg hl0
    have e1 := Below.trod laidOut (by kernel_rfl) (of_decide_eq_true (by kernel_rfl)) t1 hg hl1
    have e2 := trodAll_cons_mk e0 (trodAll_cons_mk e1 trodAll_mk0)
    rw [List.append_nil] at e2
    exact e2

theorem over : Rows.fnDefaultTextListsSortedEntriesRow.holds Try.pinned (OpenSpec.ofChange Rows.fnDefaultTextListsSortedEntriesSpec) :=
  OpenClaim.holds_of_wide 6 Try.f6 rfl rfl rfl rfl rfl rfl rfl ⟨rfl, rfl, rfl, rfl, rfl⟩ rfl rfl rfl rfl rfl (by kernel_rfl) Try.func6 (by kernel_rfl)
    (of_decide_eq_true (by kernel_rfl)) (by unfold Func.isWrapper; first | (rw [if_pos (by decide +kernel)]; kernel_rfl) | (rw [if_neg (by decide +kernel)]; exact ⟨rfl, rfl⟩))
    (fun os started H enc _ => lifted os started H enc)

/-- ████ THE STATEMENT ████ -/
theorem proved : Rows.FnDefaultTextListsSortedEntriesSaid :=
  over
#print axioms proved
end Go.Proofs.Qxb6605527a.fnDefaultTextListsSortedEntries
