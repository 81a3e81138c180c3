/-
  No cell of these rows narrows 'for every input' (looked for: loops, veiled, ifaces, maps, wideKeys, modest, calm, conditions, laid).
  DERIVED. THE GIVEN ROWS OF THIS SEAT. 4 by the template 'for every input the law returns true; each argument reads behind the call as it read before'; 0 by the template 'total and deterministic' (their statements: Qxb6605565aTotals.lean).
  GIVEN WITH THE SEED: the statements are not yours to turn. If you find one false, say at which input.
  Laid BY PROGRAM, IN A SANDBOX (cutbox-rows.mjs): the forced cells as the released guide's own fill.sh prints them over the translation de922095fd1b0fb3… (all of the seat's roots in one cut). By AI agents, Wed Nov 11 2026. No macro, syntax, notation, axiom, sorry.
-/
import Derived.Test.Qxb6605565aChecked
import GoSem.Claim
import GoSem.ClaimJoined
import GoSem.ClaimMapViews
import Derived.JoinedTies
import Derived.KernelRfl
namespace Go.Proofs.Qxb6605565a
/- THE CELL 'sum', in the pinned program and in every row, IS THE sha256 OF THE DUMP (.gsa) THAT Qxb6605565aProg.lean LOADS. Nothing in Lean hashes anything: it is a label: what it is worth is what the hold of that sum in a sandbox is worth. -/
noncomputable def Try.pinned : Pinned := { name := "qxb6605565a", sum := "de922095fd1b0fb3d561f53038fbff9abd09234fe23ab3902cd5124400cf7e9a", checked := Try.checked }
namespace Rows
def none {H : Type} : Left H := { results := [], args := [] }

/-- 'zzlaws_jsonwalk_b1.FnIntMatchesDecimalModel': WHATEVER THE INPUT: true; the input reads as it did. -/
def fnIntMatchesDecimalModelSpec : ChangeSpec := { name := "fnIntMatchesDecimalModel", fn := fun _ => fun
  | [d] => { results := [.lit (.bool true)], args := [d] }
  | _ => none }
def fnIntMatchesDecimalModelRow : OpenClaim := { program := "qxb6605565a", sum := "de922095fd1b0fb3d561f53038fbff9abd09234fe23ab3902cd5124400cf7e9a", func := "example.com/tracecourt/tracecourt/zzlaws_jsonwalk_b1.FnIntMatchesDecimalModel", spec := "fnIntMatchesDecimalModel", apart := false }
def FnIntMatchesDecimalModelSaid : Prop := fnIntMatchesDecimalModelRow.holds Try.pinned (OpenSpec.ofChange fnIntMatchesDecimalModelSpec)

/-- ITS FALSE NEIGHBOUR: 'it returns false'. Refute it at one input. -/
def fnIntMatchesDecimalModelWrong : ChangeSpec := { name := "fnIntMatchesDecimalModel", fn := fun _ => fun
  | [d] => { results := [.lit (.bool false)], args := [d] }
  | _ => none }
def FnIntMatchesDecimalModelWrongFalsely : Prop := fnIntMatchesDecimalModelRow.holds Try.pinned (OpenSpec.ofChange fnIntMatchesDecimalModelWrong)

/-- 'zzlaws_jsonwalk_b1.FnSeparateReportsTruthAndStandsStill': WHATEVER THE INPUT: true; the input reads as it did. -/
def fnSeparateReportsTruthAndStandsStillSpec : ChangeSpec := { name := "fnSeparateReportsTruthAndStandsStill", fn := fun _ => fun
  | [d1, d2, d3, d4, d5, d6] => { results := [.lit (.bool true)], args := [d1, d2, d3, d4, d5, d6] }
  | _ => none }
def fnSeparateReportsTruthAndStandsStillRow : OpenClaim := { program := "qxb6605565a", sum := "de922095fd1b0fb3d561f53038fbff9abd09234fe23ab3902cd5124400cf7e9a", func := "example.com/tracecourt/tracecourt/zzlaws_jsonwalk_b1.FnSeparateReportsTruthAndStandsStill", spec := "fnSeparateReportsTruthAndStandsStill", apart := false }
def FnSeparateReportsTruthAndStandsStillSaid : Prop := fnSeparateReportsTruthAndStandsStillRow.holds Try.pinned (OpenSpec.ofChange fnSeparateReportsTruthAndStandsStillSpec)

/-- ITS FALSE NEIGHBOUR: 'it returns false'. Refute it at one input. -/
def fnSeparateReportsTruthAndStandsStillWrong : ChangeSpec := { name := "fnSeparateReportsTruthAndStandsStill", fn := fun _ => fun
  | [d1, d2, d3, d4, d5, d6] => { results := [.lit (.bool false)], args := [d1, d2, d3, d4, d5, d6] }
  | _ => none }
def FnSeparateReportsTruthAndStandsStillWrongFalsely : Prop := fnSeparateReportsTruthAndStandsStillRow.holds Try.pinned (OpenSpec.ofChange fnSeparateReportsTruthAndStandsStillWrong)

/-- 'zzlaws_jsonwalk_b1.FnNumberEndMatchesDFA': WHATEVER THE INPUT: true; the input reads as it did. -/
def fnNumberEndMatchesDFASpec : ChangeSpec := { name := "fnNumberEndMatchesDFA", fn := fun _ => fun
  | [d1, d2] => { results := [.lit (.bool true)], args := [d1, d2] }
  | _ => none }
def fnNumberEndMatchesDFARow : OpenClaim := { program := "qxb6605565a", sum := "de922095fd1b0fb3d561f53038fbff9abd09234fe23ab3902cd5124400cf7e9a", func := "example.com/tracecourt/tracecourt/zzlaws_jsonwalk_b1.FnNumberEndMatchesDFA", spec := "fnNumberEndMatchesDFA", apart := false }
def FnNumberEndMatchesDFASaid : Prop := fnNumberEndMatchesDFARow.holds Try.pinned (OpenSpec.ofChange fnNumberEndMatchesDFASpec)

/-- ITS FALSE NEIGHBOUR: 'it returns false'. Refute it at one input. -/
def fnNumberEndMatchesDFAWrong : ChangeSpec := { name := "fnNumberEndMatchesDFA", fn := fun _ => fun
  | [d1, d2] => { results := [.lit (.bool false)], args := [d1, d2] }
  | _ => none }
def FnNumberEndMatchesDFAWrongFalsely : Prop := fnNumberEndMatchesDFARow.holds Try.pinned (OpenSpec.ofChange fnNumberEndMatchesDFAWrong)

/-- 'zzlaws_jsonwalk_b1.FnNumberEndStandsOnItsOwn': WHATEVER THE INPUT: true; the input reads as it did. -/
def fnNumberEndStandsOnItsOwnSpec : ChangeSpec := { name := "fnNumberEndStandsOnItsOwn", fn := fun _ => fun
  | [d1, d2] => { results := [.lit (.bool true)], args := [d1, d2] }
  | _ => none }
def fnNumberEndStandsOnItsOwnRow : OpenClaim := { program := "qxb6605565a", sum := "de922095fd1b0fb3d561f53038fbff9abd09234fe23ab3902cd5124400cf7e9a", func := "example.com/tracecourt/tracecourt/zzlaws_jsonwalk_b1.FnNumberEndStandsOnItsOwn", spec := "fnNumberEndStandsOnItsOwn", apart := false }
def FnNumberEndStandsOnItsOwnSaid : Prop := fnNumberEndStandsOnItsOwnRow.holds Try.pinned (OpenSpec.ofChange fnNumberEndStandsOnItsOwnSpec)

/-- ITS FALSE NEIGHBOUR: 'it returns false'. Refute it at one input. -/
def fnNumberEndStandsOnItsOwnWrong : ChangeSpec := { name := "fnNumberEndStandsOnItsOwn", fn := fun _ => fun
  | [d1, d2] => { results := [.lit (.bool false)], args := [d1, d2] }
  | _ => none }
def FnNumberEndStandsOnItsOwnWrongFalsely : Prop := fnNumberEndStandsOnItsOwnRow.holds Try.pinned (OpenSpec.ofChange fnNumberEndStandsOnItsOwnWrong)

end Rows
end Go.Proofs.Qxb6605565a
