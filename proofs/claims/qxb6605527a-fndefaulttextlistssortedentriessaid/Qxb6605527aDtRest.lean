import Derived.Test.Qxb6605527aBytes
import Derived.Test.Qxb6605527aDt
import Derived.Laws.Cover3
namespace Go.Proofs.Qxb6605527a
open Go.RowKit Go.Maps Go.Sort

theorem someSlice (a : Addr) (n c : Nat) (w : World) : (binOp .neq 29 (.slice (some a) n c) (.slice none 0 0)).run Try.prog w = .ok (.bool true) w := by
  rw [run_neq_slice_nil w 29 9 _ n c Try.underlying29]; rfl
theorem noneSlice (w : World) : (binOp .neq 29 (.slice none 0 0) (.slice none 0 0)).run Try.prog w = .ok (.bool false) w := by
  rw [run_neq_slice_nil w 29 9 _ 0 0 Try.underlying29]; rfl
theorem mkmap0 (w : World) : (Instr.makeMap 31 (some (.int .i64 0))).run Try.prog w = .ok (.map (some w.heap.size)) (w.alloc (.map #[] 0)) := by
  simp [Instr.makeMap, run_underlying Try.underlying31, asInt, asIntOf, Result.andThen]

set_option maxRecDepth 100000 in
set_option maxHeartbeats 1000000 in
/-- too many keys, or not as many values: nothing is asked -/
theorem law_triv (a0 a1 : Option Addr) (n0 c0 n1 c1 : Nat) (w : World) (h : (4096 : Int) < n0 ∨ n1 ≠ n0)
    (hz : Calls Try.prog 15 #[.slice a0 n0 c0, .slice a1 n1 c1] w fun e w' => IsBool e ∧ w = w') :
    Calls Try.prog 6 #[.slice a0 n0 c0, .slice a1 n1 c1] w fun e w' => e = .returned (.bool true) ∧ Below w.heap.size w w' := by
  have HH : Hid _ := h
  clear h
  go_enter Try.func6, Try.ntmps6
  go_wp2_with fail
  go_at_call 15
  refine hz.mono ?_
  rintro e w' ⟨⟨b, rfl⟩, rfl⟩
  clear hz
  cases b with
  | false =>
    go_wp2
    go_ret
    exact ⟨rfl, Below.refl _ _⟩
  | true =>
  by_cases h1 : (4096 : Int) < n0
  · go_wp2
    go_ret
    exact ⟨rfl, Below.refl _ _⟩
  · have h2 : ((n1 : Int) != n0) = true := by
      rcases HH.out with h | h
      · exact absurd h h1
      · simp; omega
    go_wp2
    go_ret
    exact ⟨rfl, Below.refl _ _⟩

set_option maxRecDepth 100000 in
set_option maxHeartbeats 1000000 in
/-- no key, and the slice is not nil -/
theorem law_empty (a : Addr) (a1 : Option Addr) (c0 c1 : Nat) (w : World)
    (hz : Calls Try.prog 15 #[.slice (some a) 0 c0, .slice a1 0 c1] w fun e w' => IsBool e ∧ w = w') :
    Calls Try.prog 6 #[.slice (some a) 0 c0, .slice a1 0 c1] w fun e w' => e = .returned (.bool true) ∧ Below w.heap.size w w' := by
  have hc16 := dt16_any w.heap.size 0 (.map [] : DataW Unit) (w.alloc (.map #[] 0)) (World.ownsMap_made _ _ _ _) (by simp [Maps.size]) (fun x hx => by cases hx)
  go_enter Try.func6, Try.ntmps6
  go_wp2_with fail
  go_at_call 15
  refine hz.mono ?_
  rintro e w' ⟨⟨b, rfl⟩, rfl⟩
  clear hz
  cases b with
  | false =>
    go_wp2
    go_ret
    exact ⟨rfl, Below.refl _ _⟩
  | true =>
  have hmm := mkmap0
  have hns := someSlice a 0 c0
  go_wp2
  refine wp_loop_rounds 1 ?_
  rw [rounds_succ]
  go_wp2
  refine wp_loop_rounds 1 ?_
  rw [rounds_succ]
  go_wp2_with fail
  go_at_call 16
  refine hc16.mono ?_
  rintro e w4 ⟨⟨ks, hasc, hmem, hlen, rfl⟩, hB4⟩
  have hk : ks = [] := List.length_eq_zero_iff.1 (by rw [hlen]; rfl)
  subst hk
  have hown4 := map_below (World.ownsMap_made (H := Unit) w Try.prog 9 (plainElem Try.prog 9)) (hB4.block _ (by simp))
  have hln : ∀ ty, (Builtin.len_ #[31] ty #[.map (some w.heap.size)]).run Try.prog w4 = .ok (.int .i64 0) w4 := fun ty => by rw [hown4.len Try.underlying31 ty]; rfl
  have hB : Below w.heap.size w w4 := ((Below.refl _ _).alloc (Nat.le_refl _) _).trans (hB4.mono (by simp))
  clear hc16 hasc hmem hlen hB4 hown4 hmm hns
  go_wp2
  go_ret
  exact ⟨rfl, hB⟩

set_option maxRecDepth 100000 in
set_option maxHeartbeats 1000000 in
/-- a nil slice of keys: a nil map -/
theorem law_nil (a1 : Option Addr) (c1 : Nat) (w : World)
    (hz : Calls Try.prog 15 #[.slice none 0 0, .slice a1 0 c1] w fun e w' => IsBool e ∧ w = w') :
    Calls Try.prog 6 #[.slice none 0 0, .slice a1 0 c1] w fun e w' => e = .returned (.bool true) ∧ Below w.heap.size w w' := by
  have hc16 := dt16_nil w
  go_enter Try.func6, Try.ntmps6
  go_wp2_with fail
  go_at_call 15
  refine hz.mono ?_
  rintro e w' ⟨⟨b, rfl⟩, rfl⟩
  clear hz
  cases b with
  | false =>
    go_wp2
    go_ret
    exact ⟨rfl, Below.refl _ _⟩
  | true =>
  have hns := noneSlice
  have hln : ∀ (w : World) ty, (Builtin.len_ #[31] ty #[.map none]).run Try.prog w = .ok (.int .i64 0) w := fun w ty => Maps.len_nil Try.underlying31 ty
  go_wp2
  refine wp_loop_rounds 1 ?_
  rw [rounds_succ]
  go_wp2_with fail
  go_at_call 16
  refine hc16.mono ?_
  rintro e w4 ⟨rfl, hB4⟩
  clear hc16 hns
  go_wp2
  go_ret
  exact ⟨rfl, hB4⟩
#print axioms law_triv
#print axioms law_empty
#print axioms law_nil
end Go.Proofs.Qxb6605527a
