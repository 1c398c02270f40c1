/-
  No cell of these rows narrows 'for every input' (looked for: loops, veiled, ifaces, maps, wideKeys, modest, calm, conditions, laid).
  DERIVED. THE GIVEN ROWS OF THIS SEAT. 3 by the template 'for every input the law returns true; each argument reads behind the call as it read before'; 0 by the template 'total and deterministic' (their statements: Qxb6615598aTotals.lean).
  GIVEN WITH THE SEED: the statements are not yours to turn. If you find one false, say at which input.
  Laid BY PROGRAM, IN A SANDBOX (cutbox-rows.mjs): the forced cells as the released guide's own fill.sh prints them over the translation 67ee28d9dbe4d1a2… (all of the seat's roots in one cut). By AI agents, Wed Nov 11 2026. No macro, syntax, notation, axiom, sorry.
-/
import Derived.Test.Qxb6615598aChecked
import GoSem.Claim
import GoSem.ClaimJoined
import GoSem.ClaimMapViews
import Derived.JoinedTies
import Derived.KernelRfl
namespace Go.Proofs.Qxb6615598a
/- THE CELL 'sum', in the pinned program and in every row, IS THE sha256 OF THE DUMP (.gsa) THAT Qxb6615598aProg.lean LOADS. Nothing in Lean hashes anything: it is a label: what it is worth is what the hold of that sum in a sandbox is worth. -/
noncomputable def Try.pinned : Pinned := { name := "qxb6615598a", sum := "67ee28d9dbe4d1a2aad4512320378b126bc50731563e0cf020ce2bebf2362f5e", checked := Try.checked }
namespace Rows
def none {H : Type} : Left H := { results := [], args := [] }

/-- 'zzlaws_reserve_b1.FnMergeAgreesWithJoinedBuild': WHATEVER THE INPUT: true; the input reads as it did. -/
def fnMergeAgreesWithJoinedBuildSpec : ChangeSpec := { name := "fnMergeAgreesWithJoinedBuild", fn := fun _ => fun
  | [d1, d2, d3, d4, d5, d6, d7, d8, d9] => { results := [.lit (.bool true)], args := [d1, d2, d3, d4, d5, d6, d7, d8, d9] }
  | _ => none }
def fnMergeAgreesWithJoinedBuildRow : OpenClaim := { program := "qxb6615598a", sum := "67ee28d9dbe4d1a2aad4512320378b126bc50731563e0cf020ce2bebf2362f5e", func := "example.com/dutru/dutru/zzlaws_reserve_b1.FnMergeAgreesWithJoinedBuild", spec := "fnMergeAgreesWithJoinedBuild", inPlace := ["math/bits.Add64"], unfollowed := true, recurses := true, plainKeys := false, apart := false }
def FnMergeAgreesWithJoinedBuildSaid : Prop := fnMergeAgreesWithJoinedBuildRow.holds Try.pinned (OpenSpec.ofChange fnMergeAgreesWithJoinedBuildSpec)

/-- ITS FALSE NEIGHBOUR: 'it returns false'. Refute it at one input. -/
def fnMergeAgreesWithJoinedBuildWrong : ChangeSpec := { name := "fnMergeAgreesWithJoinedBuild", fn := fun _ => fun
  | [d1, d2, d3, d4, d5, d6, d7, d8, d9] => { results := [.lit (.bool false)], args := [d1, d2, d3, d4, d5, d6, d7, d8, d9] }
  | _ => none }
def FnMergeAgreesWithJoinedBuildWrongFalsely : Prop := fnMergeAgreesWithJoinedBuildRow.holds Try.pinned (OpenSpec.ofChange fnMergeAgreesWithJoinedBuildWrong)

/-- 'zzlaws_reserve_b1.FnDaysLeftShiftsAndSteps': WHATEVER THE INPUT: true; the input reads as it did. -/
def fnDaysLeftShiftsAndStepsSpec : ChangeSpec := { name := "fnDaysLeftShiftsAndSteps", fn := fun _ => fun
  | [d1, d2, d3, d4] => { results := [.lit (.bool true)], args := [d1, d2, d3, d4] }
  | _ => none }
def fnDaysLeftShiftsAndStepsRow : OpenClaim := { program := "qxb6615598a", sum := "67ee28d9dbe4d1a2aad4512320378b126bc50731563e0cf020ce2bebf2362f5e", func := "example.com/dutru/dutru/zzlaws_reserve_b1.FnDaysLeftShiftsAndSteps", spec := "fnDaysLeftShiftsAndSteps", plainKeys := false, apart := false }
def FnDaysLeftShiftsAndStepsSaid : Prop := fnDaysLeftShiftsAndStepsRow.holds Try.pinned (OpenSpec.ofChange fnDaysLeftShiftsAndStepsSpec)

/-- ITS FALSE NEIGHBOUR: 'it returns false'. Refute it at one input. -/
def fnDaysLeftShiftsAndStepsWrong : ChangeSpec := { name := "fnDaysLeftShiftsAndSteps", fn := fun _ => fun
  | [d1, d2, d3, d4] => { results := [.lit (.bool false)], args := [d1, d2, d3, d4] }
  | _ => none }
def FnDaysLeftShiftsAndStepsWrongFalsely : Prop := fnDaysLeftShiftsAndStepsRow.holds Try.pinned (OpenSpec.ofChange fnDaysLeftShiftsAndStepsWrong)

/-- 'zzlaws_reserve_b1.FnDaysLeftGivesBackTheDaysReported': WHATEVER THE INPUT: true; the input reads as it did. -/
def fnDaysLeftGivesBackTheDaysReportedSpec : ChangeSpec := { name := "fnDaysLeftGivesBackTheDaysReported", fn := fun _ => fun
  | [d1, d2, d3] => { results := [.lit (.bool true)], args := [d1, d2, d3] }
  | _ => none }
def fnDaysLeftGivesBackTheDaysReportedRow : OpenClaim := { program := "qxb6615598a", sum := "67ee28d9dbe4d1a2aad4512320378b126bc50731563e0cf020ce2bebf2362f5e", func := "example.com/dutru/dutru/zzlaws_reserve_b1.FnDaysLeftGivesBackTheDaysReported", spec := "fnDaysLeftGivesBackTheDaysReported", plainKeys := false, apart := false }
def FnDaysLeftGivesBackTheDaysReportedSaid : Prop := fnDaysLeftGivesBackTheDaysReportedRow.holds Try.pinned (OpenSpec.ofChange fnDaysLeftGivesBackTheDaysReportedSpec)

/-- ITS FALSE NEIGHBOUR: 'it returns false'. Refute it at one input. -/
def fnDaysLeftGivesBackTheDaysReportedWrong : ChangeSpec := { name := "fnDaysLeftGivesBackTheDaysReported", fn := fun _ => fun
  | [d1, d2, d3] => { results := [.lit (.bool false)], args := [d1, d2, d3] }
  | _ => none }
def FnDaysLeftGivesBackTheDaysReportedWrongFalsely : Prop := fnDaysLeftGivesBackTheDaysReportedRow.holds Try.pinned (OpenSpec.ofChange fnDaysLeftGivesBackTheDaysReportedWrong)

end Rows
end Go.Proofs.Qxb6615598a
