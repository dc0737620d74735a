/-
  No cell of these rows narrows 'for every input' (looked for: loops, veiled, ifaces, maps, wideKeys, modest, calm, conditions, laid).
  DERIVED. THE GIVEN ROWS OF THIS SEAT. 3 by the template 'for every input the law returns true; each argument reads behind the call as it read before'; 0 by the template 'total and deterministic' (their statements: Qxb6617129aTotals.lean).
  GIVEN WITH THE SEED: the statements are not yours to turn. If you find one false, say at which input.
  Laid BY PROGRAM, IN A SANDBOX (cutbox-rows.mjs): the forced cells as the released guide's own fill.sh prints them over the translation 954039884f043734… (all of the seat's roots in one cut). By AI agents, Wed Nov 11 2026. No macro, syntax, notation, axiom, sorry.
-/
import Derived.Test.Qxb6617129aChecked
import GoSem.Claim
import GoSem.ClaimJoined
import GoSem.ClaimMapViews
import Derived.JoinedTies
import Derived.KernelRfl
namespace Go.Proofs.Qxb6617129a
/- THE CELL 'sum', in the pinned program and in every row, IS THE sha256 OF THE DUMP (.gsa) THAT Qxb6617129aProg.lean LOADS. Nothing in Lean hashes anything: it is a label: what it is worth is what the hold of that sum in a sandbox is worth. -/
noncomputable def Try.pinned : Pinned := { name := "qxb6617129a", sum := "954039884f04373443b56655a44ac9e63086755b30a5ff620b4818944f662302", checked := Try.checked }
namespace Rows
def none {H : Type} : Left H := { results := [], args := [] }

/-- 'zzlaws_internal_cover_b1.FnResetForgetsTheEarlierSize': WHATEVER THE INPUT: true; the input reads as it did. -/
def fnResetForgetsTheEarlierSizeSpec : ChangeSpec := { name := "fnResetForgetsTheEarlierSize", fn := fun _ => fun
  | [d1, d2, d3, d4, d5] => { results := [.lit (.bool true)], args := [d1, d2, d3, d4, d5] }
  | _ => none }
def fnResetForgetsTheEarlierSizeRow : OpenClaim := { program := "qxb6617129a", sum := "954039884f04373443b56655a44ac9e63086755b30a5ff620b4818944f662302", func := "example.com/policy-conflict-check/policy-conflict-check/zzlaws_internal_cover_b1.FnResetForgetsTheEarlierSize", spec := "fnResetForgetsTheEarlierSize", apart := false }
def FnResetForgetsTheEarlierSizeSaid : Prop := fnResetForgetsTheEarlierSizeRow.holds Try.pinned (OpenSpec.ofChange fnResetForgetsTheEarlierSizeSpec)

/-- ITS FALSE NEIGHBOUR: 'it returns false'. Refute it at one input. -/
def fnResetForgetsTheEarlierSizeWrong : ChangeSpec := { name := "fnResetForgetsTheEarlierSize", fn := fun _ => fun
  | [d1, d2, d3, d4, d5] => { results := [.lit (.bool false)], args := [d1, d2, d3, d4, d5] }
  | _ => none }
def FnResetForgetsTheEarlierSizeWrongFalsely : Prop := fnResetForgetsTheEarlierSizeRow.holds Try.pinned (OpenSpec.ofChange fnResetForgetsTheEarlierSizeWrong)

/-- 'zzlaws_internal_cover_b1.FnResetMakesAnEmptyGrid': WHATEVER THE INPUT: true; the input reads as it did. -/
def fnResetMakesAnEmptyGridSpec : ChangeSpec := { name := "fnResetMakesAnEmptyGrid", fn := fun _ => fun
  | [d1, d2, d3] => { results := [.lit (.bool true)], args := [d1, d2, d3] }
  | _ => none }
def fnResetMakesAnEmptyGridRow : OpenClaim := { program := "qxb6617129a", sum := "954039884f04373443b56655a44ac9e63086755b30a5ff620b4818944f662302", func := "example.com/policy-conflict-check/policy-conflict-check/zzlaws_internal_cover_b1.FnResetMakesAnEmptyGrid", spec := "fnResetMakesAnEmptyGrid", apart := false }
def FnResetMakesAnEmptyGridSaid : Prop := fnResetMakesAnEmptyGridRow.holds Try.pinned (OpenSpec.ofChange fnResetMakesAnEmptyGridSpec)

/-- ITS FALSE NEIGHBOUR: 'it returns false'. Refute it at one input. -/
def fnResetMakesAnEmptyGridWrong : ChangeSpec := { name := "fnResetMakesAnEmptyGrid", fn := fun _ => fun
  | [d1, d2, d3] => { results := [.lit (.bool false)], args := [d1, d2, d3] }
  | _ => none }
def FnResetMakesAnEmptyGridWrongFalsely : Prop := fnResetMakesAnEmptyGridRow.holds Try.pinned (OpenSpec.ofChange fnResetMakesAnEmptyGridWrong)

/-- 'zzlaws_internal_cover_b1.FnLoadRowsAtOnceOrInTwoSteps': WHATEVER THE INPUT: true; the input reads as it did. -/
def fnLoadRowsAtOnceOrInTwoStepsSpec : ChangeSpec := { name := "fnLoadRowsAtOnceOrInTwoSteps", fn := fun _ => fun
  | [d1, d2] => { results := [.lit (.bool true)], args := [d1, d2] }
  | _ => none }
def fnLoadRowsAtOnceOrInTwoStepsRow : OpenClaim := { program := "qxb6617129a", sum := "954039884f04373443b56655a44ac9e63086755b30a5ff620b4818944f662302", func := "example.com/policy-conflict-check/policy-conflict-check/zzlaws_internal_cover_b1.FnLoadRowsAtOnceOrInTwoSteps", spec := "fnLoadRowsAtOnceOrInTwoSteps", apart := false }
def FnLoadRowsAtOnceOrInTwoStepsSaid : Prop := fnLoadRowsAtOnceOrInTwoStepsRow.holds Try.pinned (OpenSpec.ofChange fnLoadRowsAtOnceOrInTwoStepsSpec)

/-- ITS FALSE NEIGHBOUR: 'it returns false'. Refute it at one input. -/
def fnLoadRowsAtOnceOrInTwoStepsWrong : ChangeSpec := { name := "fnLoadRowsAtOnceOrInTwoSteps", fn := fun _ => fun
  | [d1, d2] => { results := [.lit (.bool false)], args := [d1, d2] }
  | _ => none }
def FnLoadRowsAtOnceOrInTwoStepsWrongFalsely : Prop := fnLoadRowsAtOnceOrInTwoStepsRow.holds Try.pinned (OpenSpec.ofChange fnLoadRowsAtOnceOrInTwoStepsWrong)

end Rows
end Go.Proofs.Qxb6617129a
