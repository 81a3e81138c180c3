/-
  No cell of these rows narrows 'for every input' (looked for: loops, veiled, ifaces, maps, wideKeys, modest, calm, conditions, laid).
  DERIVED. THE GIVEN ROWS OF THIS SEAT. 4 by the template 'for every input the law returns true; each argument reads behind the call as it read before'; 0 by the template 'total and deterministic' (their statements: Qxb6605527aTotals.lean).
  GIVEN WITH THE SEED: the statements are not yours to turn. If you find one false, say at which input.
  Laid BY PROGRAM, IN A SANDBOX (cutbox-rows.mjs): the forced cells as the released guide's own fill.sh prints them over the translation b0a48c8fd127d1b9… (all of the seat's roots in one cut). By AI agents, Wed Nov 11 2026. No macro, syntax, notation, axiom, sorry.
-/
import Derived.Test.Qxb6605527aChecked
import GoSem.Claim
import GoSem.ClaimJoined
import GoSem.ClaimMapViews
import Derived.JoinedTies
import Derived.KernelRfl
namespace Go.Proofs.Qxb6605527a
/- THE CELL 'sum', in the pinned program and in every row, IS THE sha256 OF THE DUMP (.gsa) THAT Qxb6605527aProg.lean LOADS. Nothing in Lean hashes anything: it is a label: what it is worth is what the hold of that sum in a sandbox is worth. -/
noncomputable def Try.pinned : Pinned := { name := "qxb6605527a", sum := "b0a48c8fd127d1b9651027e395ec129f9a730697ea5dd9554eecd173f5168b9f", checked := Try.checked }
namespace Rows
def none {H : Type} : Left H := { results := [], args := [] }

/-- 'zzlaws_root_b1.FnSmallDecimalRoundTrip': WHATEVER THE INPUT: true; the input reads as it did. -/
def fnSmallDecimalRoundTripSpec : ChangeSpec := { name := "fnSmallDecimalRoundTrip", fn := fun _ => fun
  | [d] => { results := [.lit (.bool true)], args := [d] }
  | _ => none }
def fnSmallDecimalRoundTripRow : OpenClaim := { program := "qxb6605527a", sum := "b0a48c8fd127d1b9651027e395ec129f9a730697ea5dd9554eecd173f5168b9f", func := "example.com/optlathe/optlathe/zzlaws_root_b1.FnSmallDecimalRoundTrip", spec := "fnSmallDecimalRoundTrip", apart := false }
def FnSmallDecimalRoundTripSaid : Prop := fnSmallDecimalRoundTripRow.holds Try.pinned (OpenSpec.ofChange fnSmallDecimalRoundTripSpec)

/-- ITS FALSE NEIGHBOUR: 'it returns false'. Refute it at one input. -/
def fnSmallDecimalRoundTripWrong : ChangeSpec := { name := "fnSmallDecimalRoundTrip", fn := fun _ => fun
  | [d] => { results := [.lit (.bool false)], args := [d] }
  | _ => none }
def FnSmallDecimalRoundTripWrongFalsely : Prop := fnSmallDecimalRoundTripRow.holds Try.pinned (OpenSpec.ofChange fnSmallDecimalRoundTripWrong)

/-- 'zzlaws_root_b1.FnSmallDecimalKeepsOrder': WHATEVER THE INPUT: true; the input reads as it did. -/
def fnSmallDecimalKeepsOrderSpec : ChangeSpec := { name := "fnSmallDecimalKeepsOrder", fn := fun _ => fun
  | [d1, d2] => { results := [.lit (.bool true)], args := [d1, d2] }
  | _ => none }
def fnSmallDecimalKeepsOrderRow : OpenClaim := { program := "qxb6605527a", sum := "b0a48c8fd127d1b9651027e395ec129f9a730697ea5dd9554eecd173f5168b9f", func := "example.com/optlathe/optlathe/zzlaws_root_b1.FnSmallDecimalKeepsOrder", spec := "fnSmallDecimalKeepsOrder", apart := false }
def FnSmallDecimalKeepsOrderSaid : Prop := fnSmallDecimalKeepsOrderRow.holds Try.pinned (OpenSpec.ofChange fnSmallDecimalKeepsOrderSpec)

/-- ITS FALSE NEIGHBOUR: 'it returns false'. Refute it at one input. -/
def fnSmallDecimalKeepsOrderWrong : ChangeSpec := { name := "fnSmallDecimalKeepsOrder", fn := fun _ => fun
  | [d1, d2] => { results := [.lit (.bool false)], args := [d1, d2] }
  | _ => none }
def FnSmallDecimalKeepsOrderWrongFalsely : Prop := fnSmallDecimalKeepsOrderRow.holds Try.pinned (OpenSpec.ofChange fnSmallDecimalKeepsOrderWrong)

/-- 'zzlaws_root_b1.FnPlainASCIIIsBytewisePrintable': WHATEVER THE INPUT: true; the input reads as it did. -/
def fnPlainASCIIIsBytewisePrintableSpec : ChangeSpec := { name := "fnPlainASCIIIsBytewisePrintable", fn := fun _ => fun
  | [d] => { results := [.lit (.bool true)], args := [d] }
  | _ => none }
def fnPlainASCIIIsBytewisePrintableRow : OpenClaim := { program := "qxb6605527a", sum := "b0a48c8fd127d1b9651027e395ec129f9a730697ea5dd9554eecd173f5168b9f", func := "example.com/optlathe/optlathe/zzlaws_root_b1.FnPlainASCIIIsBytewisePrintable", spec := "fnPlainASCIIIsBytewisePrintable", apart := false }
def FnPlainASCIIIsBytewisePrintableSaid : Prop := fnPlainASCIIIsBytewisePrintableRow.holds Try.pinned (OpenSpec.ofChange fnPlainASCIIIsBytewisePrintableSpec)

/-- ITS FALSE NEIGHBOUR: 'it returns false'. Refute it at one input. -/
def fnPlainASCIIIsBytewisePrintableWrong : ChangeSpec := { name := "fnPlainASCIIIsBytewisePrintable", fn := fun _ => fun
  | [d] => { results := [.lit (.bool false)], args := [d] }
  | _ => none }
def FnPlainASCIIIsBytewisePrintableWrongFalsely : Prop := fnPlainASCIIIsBytewisePrintableRow.holds Try.pinned (OpenSpec.ofChange fnPlainASCIIIsBytewisePrintableWrong)

/-- 'zzlaws_root_b1.FnDefaultTextListsSortedEntries': WHATEVER THE INPUT: true; the input reads as it did. -/
def fnDefaultTextListsSortedEntriesSpec : ChangeSpec := { name := "fnDefaultTextListsSortedEntries", fn := fun _ => fun
  | [d1, d2] => { results := [.lit (.bool true)], args := [d1, d2] }
  | _ => none }
def fnDefaultTextListsSortedEntriesRow : OpenClaim := { program := "qxb6605527a", sum := "b0a48c8fd127d1b9651027e395ec129f9a730697ea5dd9554eecd173f5168b9f", func := "example.com/optlathe/optlathe/zzlaws_root_b1.FnDefaultTextListsSortedEntries", spec := "fnDefaultTextListsSortedEntries", inPlace := ["internal/abi.NoEscape", "internal/bytealg.MakeNoZero"], recurses := true, apart := false }
def FnDefaultTextListsSortedEntriesSaid : Prop := fnDefaultTextListsSortedEntriesRow.holds Try.pinned (OpenSpec.ofChange fnDefaultTextListsSortedEntriesSpec)

/-- ITS FALSE NEIGHBOUR: 'it returns false'. Refute it at one input. -/
def fnDefaultTextListsSortedEntriesWrong : ChangeSpec := { name := "fnDefaultTextListsSortedEntries", fn := fun _ => fun
  | [d1, d2] => { results := [.lit (.bool false)], args := [d1, d2] }
  | _ => none }
def FnDefaultTextListsSortedEntriesWrongFalsely : Prop := fnDefaultTextListsSortedEntriesRow.holds Try.pinned (OpenSpec.ofChange fnDefaultTextListsSortedEntriesWrong)

end Rows
end Go.Proofs.Qxb6605527a
