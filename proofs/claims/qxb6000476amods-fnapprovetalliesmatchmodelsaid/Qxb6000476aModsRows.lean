/-
  No cell of these rows narrows 'for every input' (looked for: loops, veiled, ifaces, maps, wideKeys, modest, calm, conditions, laid).
  DERIVED. THE GIVEN ROWS OF THIS SEAT. 8 by the template 'for every input the law returns true; each argument reads behind the call as it read before'; 0 by the template 'total and deterministic' (their statements: Qxb6000476aModsTotals.lean).
  GIVEN WITH THE SEED: the statements are not yours to turn. If you find one false, say at which input.
  Laid BY PROGRAM, IN A SANDBOX (cutbox-rows.mjs): the forced cells as the released guide's own fill.sh prints them over the translation 4e578304b249ccc8… (all of the seat's roots in one cut). By AI agents, Wed Nov 11 2026. No macro, syntax, notation, axiom, sorry.
-/
import Derived.Test.Qxb6000476aModsChecked
import GoSem.Claim
import GoSem.ClaimJoined
import GoSem.ClaimMapViews
import Derived.JoinedTies
import Derived.KernelRfl
namespace Go.Proofs.Qxb6000476aMods
/- THE CELL 'sum', in the pinned program and in every row, IS THE sha256 OF THE DUMP (.gsa) THAT Qxb6000476aModsProg.lean LOADS. Nothing in Lean hashes anything: it is a label: what it is worth is what the hold of that sum in a sandbox is worth. -/
noncomputable def Trym.pinned : Pinned := { name := "qxb6000476amods", sum := "4e578304b249ccc8a08d05be64a7d5e44b8ecd843d45b0e5cec5f9fe5668fb86", checked := Trym.checked }
namespace Rows
def none {H : Type} : Left H := { results := [], args := [] }

/-- 'zzlaws_internal_approval_b1.FnTrancheBelowCount': WHATEVER THE INPUT: true; the input reads as it did. -/
def fnTrancheBelowCountSpec : ChangeSpec := { name := "fnTrancheBelowCount", fn := fun _ => fun
  | [d1, d2, d3] => { results := [.lit (.bool true)], args := [d1, d2, d3] }
  | _ => none }
def fnTrancheBelowCountRow : OpenClaim := { program := "qxb6000476amods", sum := "4e578304b249ccc8a08d05be64a7d5e44b8ecd843d45b0e5cec5f9fe5668fb86", func := "example.com/surety/surety/zzlaws_internal_approval_b1.FnTrancheBelowCount", spec := "fnTrancheBelowCount", make := .lifted ["publicsums"], apart := false }
def FnTrancheBelowCountSaid : Prop := fnTrancheBelowCountRow.holds Trym.pinned (OpenSpec.ofChange fnTrancheBelowCountSpec)

/-- ITS FALSE NEIGHBOUR: 'it returns false'. Refute it at one input. -/
def fnTrancheBelowCountWrong : ChangeSpec := { name := "fnTrancheBelowCount", fn := fun _ => fun
  | [d1, d2, d3] => { results := [.lit (.bool false)], args := [d1, d2, d3] }
  | _ => none }
def FnTrancheBelowCountWrongFalsely : Prop := fnTrancheBelowCountRow.holds Trym.pinned (OpenSpec.ofChange fnTrancheBelowCountWrong)

/-- 'zzlaws_internal_approval_b1.FnTranchePeriodic': WHATEVER THE INPUT: true; the input reads as it did. -/
def fnTranchePeriodicSpec : ChangeSpec := { name := "fnTranchePeriodic", fn := fun _ => fun
  | [d1, d2, d3] => { results := [.lit (.bool true)], args := [d1, d2, d3] }
  | _ => none }
def fnTranchePeriodicRow : OpenClaim := { program := "qxb6000476amods", sum := "4e578304b249ccc8a08d05be64a7d5e44b8ecd843d45b0e5cec5f9fe5668fb86", func := "example.com/surety/surety/zzlaws_internal_approval_b1.FnTranchePeriodic", spec := "fnTranchePeriodic", make := .lifted ["publicsums"], apart := false }
def FnTranchePeriodicSaid : Prop := fnTranchePeriodicRow.holds Trym.pinned (OpenSpec.ofChange fnTranchePeriodicSpec)

/-- ITS FALSE NEIGHBOUR: 'it returns false'. Refute it at one input. -/
def fnTranchePeriodicWrong : ChangeSpec := { name := "fnTranchePeriodic", fn := fun _ => fun
  | [d1, d2, d3] => { results := [.lit (.bool false)], args := [d1, d2, d3] }
  | _ => none }
def FnTranchePeriodicWrongFalsely : Prop := fnTranchePeriodicRow.holds Trym.pinned (OpenSpec.ofChange fnTranchePeriodicWrong)

/-- 'zzlaws_internal_approval_b1.FnEnoughIsFirstTrancheReachingNeeded': WHATEVER THE INPUT: true; the input reads as it did. -/
def fnEnoughIsFirstTrancheReachingNeededSpec : ChangeSpec := { name := "fnEnoughIsFirstTrancheReachingNeeded", fn := fun _ => fun
  | [d1, d2] => { results := [.lit (.bool true)], args := [d1, d2] }
  | _ => none }
def fnEnoughIsFirstTrancheReachingNeededRow : OpenClaim := { program := "qxb6000476amods", sum := "4e578304b249ccc8a08d05be64a7d5e44b8ecd843d45b0e5cec5f9fe5668fb86", func := "example.com/surety/surety/zzlaws_internal_approval_b1.FnEnoughIsFirstTrancheReachingNeeded", spec := "fnEnoughIsFirstTrancheReachingNeeded", make := .lifted ["publicsums"], apart := false }
def FnEnoughIsFirstTrancheReachingNeededSaid : Prop := fnEnoughIsFirstTrancheReachingNeededRow.holds Trym.pinned (OpenSpec.ofChange fnEnoughIsFirstTrancheReachingNeededSpec)

/-- ITS FALSE NEIGHBOUR: 'it returns false'. Refute it at one input. -/
def fnEnoughIsFirstTrancheReachingNeededWrong : ChangeSpec := { name := "fnEnoughIsFirstTrancheReachingNeeded", fn := fun _ => fun
  | [d1, d2] => { results := [.lit (.bool false)], args := [d1, d2] }
  | _ => none }
def FnEnoughIsFirstTrancheReachingNeededWrongFalsely : Prop := fnEnoughIsFirstTrancheReachingNeededRow.holds Trym.pinned (OpenSpec.ofChange fnEnoughIsFirstTrancheReachingNeededWrong)

/-- 'zzlaws_internal_approval_b1.FnEnoughMonotoneInNeeded': WHATEVER THE INPUT: true; the input reads as it did. -/
def fnEnoughMonotoneInNeededSpec : ChangeSpec := { name := "fnEnoughMonotoneInNeeded", fn := fun _ => fun
  | [d1, d2, d3] => { results := [.lit (.bool true)], args := [d1, d2, d3] }
  | _ => none }
def fnEnoughMonotoneInNeededRow : OpenClaim := { program := "qxb6000476amods", sum := "4e578304b249ccc8a08d05be64a7d5e44b8ecd843d45b0e5cec5f9fe5668fb86", func := "example.com/surety/surety/zzlaws_internal_approval_b1.FnEnoughMonotoneInNeeded", spec := "fnEnoughMonotoneInNeeded", make := .lifted ["publicsums"], apart := false }
def FnEnoughMonotoneInNeededSaid : Prop := fnEnoughMonotoneInNeededRow.holds Trym.pinned (OpenSpec.ofChange fnEnoughMonotoneInNeededSpec)

/-- ITS FALSE NEIGHBOUR: 'it returns false'. Refute it at one input. -/
def fnEnoughMonotoneInNeededWrong : ChangeSpec := { name := "fnEnoughMonotoneInNeeded", fn := fun _ => fun
  | [d1, d2, d3] => { results := [.lit (.bool false)], args := [d1, d2, d3] }
  | _ => none }
def FnEnoughMonotoneInNeededWrongFalsely : Prop := fnEnoughMonotoneInNeededRow.holds Trym.pinned (OpenSpec.ofChange fnEnoughMonotoneInNeededWrong)

/-- 'zzlaws_internal_approval_b1.FnEnoughNoLaterWithMoreCheckers': WHATEVER THE INPUT: true; the input reads as it did. -/
def fnEnoughNoLaterWithMoreCheckersSpec : ChangeSpec := { name := "fnEnoughNoLaterWithMoreCheckers", fn := fun _ => fun
  | [d1, d2, d3] => { results := [.lit (.bool true)], args := [d1, d2, d3] }
  | _ => none }
def fnEnoughNoLaterWithMoreCheckersRow : OpenClaim := { program := "qxb6000476amods", sum := "4e578304b249ccc8a08d05be64a7d5e44b8ecd843d45b0e5cec5f9fe5668fb86", func := "example.com/surety/surety/zzlaws_internal_approval_b1.FnEnoughNoLaterWithMoreCheckers", spec := "fnEnoughNoLaterWithMoreCheckers", make := .lifted ["publicsums"], apart := false }
def FnEnoughNoLaterWithMoreCheckersSaid : Prop := fnEnoughNoLaterWithMoreCheckersRow.holds Trym.pinned (OpenSpec.ofChange fnEnoughNoLaterWithMoreCheckersSpec)

/-- ITS FALSE NEIGHBOUR: 'it returns false'. Refute it at one input. -/
def fnEnoughNoLaterWithMoreCheckersWrong : ChangeSpec := { name := "fnEnoughNoLaterWithMoreCheckers", fn := fun _ => fun
  | [d1, d2, d3] => { results := [.lit (.bool false)], args := [d1, d2, d3] }
  | _ => none }
def FnEnoughNoLaterWithMoreCheckersWrongFalsely : Prop := fnEnoughNoLaterWithMoreCheckersRow.holds Trym.pinned (OpenSpec.ofChange fnEnoughNoLaterWithMoreCheckersWrong)

/-- 'zzlaws_internal_approval_b1.FnApproveTalliesMatchModel': WHATEVER THE INPUT: true; the input reads as it did. -/
def fnApproveTalliesMatchModelSpec : ChangeSpec := { name := "fnApproveTalliesMatchModel", fn := fun _ => fun
  | [d1, d2, d3, d4, d5, d6] => { results := [.lit (.bool true)], args := [d1, d2, d3, d4, d5, d6] }
  | _ => none }
def fnApproveTalliesMatchModelRow : OpenClaim := { program := "qxb6000476amods", sum := "4e578304b249ccc8a08d05be64a7d5e44b8ecd843d45b0e5cec5f9fe5668fb86", func := "example.com/surety/surety/zzlaws_internal_approval_b1.FnApproveTalliesMatchModel", spec := "fnApproveTalliesMatchModel", make := .lifted ["publicsums"], apart := false }
def FnApproveTalliesMatchModelSaid : Prop := fnApproveTalliesMatchModelRow.holds Trym.pinned (OpenSpec.ofChange fnApproveTalliesMatchModelSpec)

/-- ITS FALSE NEIGHBOUR: 'it returns false'. Refute it at one input. -/
def fnApproveTalliesMatchModelWrong : ChangeSpec := { name := "fnApproveTalliesMatchModel", fn := fun _ => fun
  | [d1, d2, d3, d4, d5, d6] => { results := [.lit (.bool false)], args := [d1, d2, d3, d4, d5, d6] }
  | _ => none }
def FnApproveTalliesMatchModelWrongFalsely : Prop := fnApproveTalliesMatchModelRow.holds Trym.pinned (OpenSpec.ofChange fnApproveTalliesMatchModelWrong)

/-- 'zzlaws_internal_approval_b1.FnApproveIdempotentAndOrderFree': WHATEVER THE INPUT: true; the input reads as it did. -/
def fnApproveIdempotentAndOrderFreeSpec : ChangeSpec := { name := "fnApproveIdempotentAndOrderFree", fn := fun _ => fun
  | [d1, d2, d3, d4, d5, d6] => { results := [.lit (.bool true)], args := [d1, d2, d3, d4, d5, d6] }
  | _ => none }
def fnApproveIdempotentAndOrderFreeRow : OpenClaim := { program := "qxb6000476amods", sum := "4e578304b249ccc8a08d05be64a7d5e44b8ecd843d45b0e5cec5f9fe5668fb86", func := "example.com/surety/surety/zzlaws_internal_approval_b1.FnApproveIdempotentAndOrderFree", spec := "fnApproveIdempotentAndOrderFree", make := .lifted ["publicsums"], apart := false }
def FnApproveIdempotentAndOrderFreeSaid : Prop := fnApproveIdempotentAndOrderFreeRow.holds Trym.pinned (OpenSpec.ofChange fnApproveIdempotentAndOrderFreeSpec)

/-- ITS FALSE NEIGHBOUR: 'it returns false'. Refute it at one input. -/
def fnApproveIdempotentAndOrderFreeWrong : ChangeSpec := { name := "fnApproveIdempotentAndOrderFree", fn := fun _ => fun
  | [d1, d2, d3, d4, d5, d6] => { results := [.lit (.bool false)], args := [d1, d2, d3, d4, d5, d6] }
  | _ => none }
def FnApproveIdempotentAndOrderFreeWrongFalsely : Prop := fnApproveIdempotentAndOrderFreeRow.holds Trym.pinned (OpenSpec.ofChange fnApproveIdempotentAndOrderFreeWrong)

/-- 'zzlaws_internal_approval_b1.FnApproveStepwiseMonotoneAndBounded': WHATEVER THE INPUT: true; the input reads as it did. -/
def fnApproveStepwiseMonotoneAndBoundedSpec : ChangeSpec := { name := "fnApproveStepwiseMonotoneAndBounded", fn := fun _ => fun
  | [d1, d2, d3, d4, d5, d6] => { results := [.lit (.bool true)], args := [d1, d2, d3, d4, d5, d6] }
  | _ => none }
def fnApproveStepwiseMonotoneAndBoundedRow : OpenClaim := { program := "qxb6000476amods", sum := "4e578304b249ccc8a08d05be64a7d5e44b8ecd843d45b0e5cec5f9fe5668fb86", func := "example.com/surety/surety/zzlaws_internal_approval_b1.FnApproveStepwiseMonotoneAndBounded", spec := "fnApproveStepwiseMonotoneAndBounded", make := .lifted ["publicsums"], apart := false }
def FnApproveStepwiseMonotoneAndBoundedSaid : Prop := fnApproveStepwiseMonotoneAndBoundedRow.holds Trym.pinned (OpenSpec.ofChange fnApproveStepwiseMonotoneAndBoundedSpec)

/-- ITS FALSE NEIGHBOUR: 'it returns false'. Refute it at one input. -/
def fnApproveStepwiseMonotoneAndBoundedWrong : ChangeSpec := { name := "fnApproveStepwiseMonotoneAndBounded", fn := fun _ => fun
  | [d1, d2, d3, d4, d5, d6] => { results := [.lit (.bool false)], args := [d1, d2, d3, d4, d5, d6] }
  | _ => none }
def FnApproveStepwiseMonotoneAndBoundedWrongFalsely : Prop := fnApproveStepwiseMonotoneAndBoundedRow.holds Trym.pinned (OpenSpec.ofChange fnApproveStepwiseMonotoneAndBoundedWrong)

end Rows
end Go.Proofs.Qxb6000476aMods
