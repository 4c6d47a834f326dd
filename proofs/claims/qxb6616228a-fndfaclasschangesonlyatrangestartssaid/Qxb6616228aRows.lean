/-
  No cell of these rows narrows 'for every input' (looked for: loops, veiled, ifaces, maps, wideKeys, modest, calm, conditions, laid).
  DERIVED. THE GIVEN ROWS OF THIS SEAT. 5 by the template 'for every input the law returns true; each argument reads behind the call as it read before'; 0 by the template 'total and deterministic' (their statements: Qxb6616228aTotals.lean).
  GIVEN WITH THE SEED: the statements are not yours to turn. If you find one false, say at which input.
  Laid BY PROGRAM, IN A SANDBOX (cutbox-rows.mjs): the forced cells as the released guide's own fill.sh prints them over the translation 2d49f53cff25a468… (all of the seat's roots in one cut). By AI agents, Wed Nov 11 2026. No macro, syntax, notation, axiom, sorry.
-/
import Derived.Test.Qxb6616228aChecked
import GoSem.Claim
import GoSem.ClaimJoined
import GoSem.ClaimMapViews
import Derived.JoinedTies
import Derived.KernelRfl
namespace Go.Proofs.Qxb6616228a
/- THE CELL 'sum', in the pinned program and in every row, IS THE sha256 OF THE DUMP (.gsa) THAT Qxb6616228aProg.lean LOADS. Nothing in Lean hashes anything: it is a label: what it is worth is what the hold of that sum in a sandbox is worth. -/
noncomputable def Try.pinned : Pinned := { name := "qxb6616228a", sum := "2d49f53cff25a468a83253bd2b3932b660cbe5c29b98700e04fcbae52db2f0b5", checked := Try.checked }
namespace Rows
def none {H : Type} : Left H := { results := [], args := [] }

/-- 'zzlaws_policy_b1.FnNameStackIndexByKeyAgreesWithScan': WHATEVER THE INPUT: true; the input reads as it did. -/
def fnNameStackIndexByKeyAgreesWithScanSpec : ChangeSpec := { name := "fnNameStackIndexByKeyAgreesWithScan", fn := fun _ => fun
  | [d1, d2, d3, d4, d5] => { results := [.lit (.bool true)], args := [d1, d2, d3, d4, d5] }
  | _ => none }
def fnNameStackIndexByKeyAgreesWithScanRow : OpenClaim := { program := "qxb6616228a", sum := "2d49f53cff25a468a83253bd2b3932b660cbe5c29b98700e04fcbae52db2f0b5", func := "example.com/callwarden/callwarden/zzlaws_policy_b1.FnNameStackIndexByKeyAgreesWithScan", spec := "fnNameStackIndexByKeyAgreesWithScan", apart := false }
def FnNameStackIndexByKeyAgreesWithScanSaid : Prop := fnNameStackIndexByKeyAgreesWithScanRow.holds Try.pinned (OpenSpec.ofChange fnNameStackIndexByKeyAgreesWithScanSpec)

/-- ITS FALSE NEIGHBOUR: 'it returns false'. Refute it at one input. -/
def fnNameStackIndexByKeyAgreesWithScanWrong : ChangeSpec := { name := "fnNameStackIndexByKeyAgreesWithScan", fn := fun _ => fun
  | [d1, d2, d3, d4, d5] => { results := [.lit (.bool false)], args := [d1, d2, d3, d4, d5] }
  | _ => none }
def FnNameStackIndexByKeyAgreesWithScanWrongFalsely : Prop := fnNameStackIndexByKeyAgreesWithScanRow.holds Try.pinned (OpenSpec.ofChange fnNameStackIndexByKeyAgreesWithScanWrong)

/-- 'zzlaws_policy_b1.FnDfaClassCutTable': WHATEVER THE INPUT: true; the input reads as it did. -/
def fnDfaClassCutTableSpec : ChangeSpec := { name := "fnDfaClassCutTable", fn := fun _ => fun
  | [d1, d2, d3, d4] => { results := [.lit (.bool true)], args := [d1, d2, d3, d4] }
  | _ => none }
def fnDfaClassCutTableRow : OpenClaim := { program := "qxb6616228a", sum := "2d49f53cff25a468a83253bd2b3932b660cbe5c29b98700e04fcbae52db2f0b5", func := "example.com/callwarden/callwarden/zzlaws_policy_b1.FnDfaClassCutTable", spec := "fnDfaClassCutTable", apart := false }
def FnDfaClassCutTableSaid : Prop := fnDfaClassCutTableRow.holds Try.pinned (OpenSpec.ofChange fnDfaClassCutTableSpec)

/-- ITS FALSE NEIGHBOUR: 'it returns false'. Refute it at one input. -/
def fnDfaClassCutTableWrong : ChangeSpec := { name := "fnDfaClassCutTable", fn := fun _ => fun
  | [d1, d2, d3, d4] => { results := [.lit (.bool false)], args := [d1, d2, d3, d4] }
  | _ => none }
def FnDfaClassCutTableWrongFalsely : Prop := fnDfaClassCutTableRow.holds Try.pinned (OpenSpec.ofChange fnDfaClassCutTableWrong)

/-- 'zzlaws_policy_b1.FnDfaClassChangesOnlyAtRangeStarts': WHATEVER THE INPUT: true; the input reads as it did. -/
def fnDfaClassChangesOnlyAtRangeStartsSpec : ChangeSpec := { name := "fnDfaClassChangesOnlyAtRangeStarts", fn := fun _ => fun
  | [d1, d2, d3] => { results := [.lit (.bool true)], args := [d1, d2, d3] }
  | _ => none }
def fnDfaClassChangesOnlyAtRangeStartsRow : OpenClaim := { program := "qxb6616228a", sum := "2d49f53cff25a468a83253bd2b3932b660cbe5c29b98700e04fcbae52db2f0b5", func := "example.com/callwarden/callwarden/zzlaws_policy_b1.FnDfaClassChangesOnlyAtRangeStarts", spec := "fnDfaClassChangesOnlyAtRangeStarts", apart := false }
def FnDfaClassChangesOnlyAtRangeStartsSaid : Prop := fnDfaClassChangesOnlyAtRangeStartsRow.holds Try.pinned (OpenSpec.ofChange fnDfaClassChangesOnlyAtRangeStartsSpec)

/-- ITS FALSE NEIGHBOUR: 'it returns false'. Refute it at one input. -/
def fnDfaClassChangesOnlyAtRangeStartsWrong : ChangeSpec := { name := "fnDfaClassChangesOnlyAtRangeStarts", fn := fun _ => fun
  | [d1, d2, d3] => { results := [.lit (.bool false)], args := [d1, d2, d3] }
  | _ => none }
def FnDfaClassChangesOnlyAtRangeStartsWrongFalsely : Prop := fnDfaClassChangesOnlyAtRangeStartsRow.holds Try.pinned (OpenSpec.ofChange fnDfaClassChangesOnlyAtRangeStartsWrong)

/-- 'zzlaws_policy_b1.FnStateSizeStepCosts': WHATEVER THE INPUT: true; the input reads as it did. -/
def fnStateSizeStepCostsSpec : ChangeSpec := { name := "fnStateSizeStepCosts", fn := fun _ => fun
  | [d1, d2, d3] => { results := [.lit (.bool true)], args := [d1, d2, d3] }
  | _ => none }
def fnStateSizeStepCostsRow : OpenClaim := { program := "qxb6616228a", sum := "2d49f53cff25a468a83253bd2b3932b660cbe5c29b98700e04fcbae52db2f0b5", func := "example.com/callwarden/callwarden/zzlaws_policy_b1.FnStateSizeStepCosts", spec := "fnStateSizeStepCosts", apart := false }
def FnStateSizeStepCostsSaid : Prop := fnStateSizeStepCostsRow.holds Try.pinned (OpenSpec.ofChange fnStateSizeStepCostsSpec)

/-- ITS FALSE NEIGHBOUR: 'it returns false'. Refute it at one input. -/
def fnStateSizeStepCostsWrong : ChangeSpec := { name := "fnStateSizeStepCosts", fn := fun _ => fun
  | [d1, d2, d3] => { results := [.lit (.bool false)], args := [d1, d2, d3] }
  | _ => none }
def FnStateSizeStepCostsWrongFalsely : Prop := fnStateSizeStepCostsRow.holds Try.pinned (OpenSpec.ofChange fnStateSizeStepCostsWrong)

/-- 'zzlaws_policy_b1.FnStateSizeSplitsAndEmptyCost': WHATEVER THE INPUT: true; the input reads as it did. -/
def fnStateSizeSplitsAndEmptyCostSpec : ChangeSpec := { name := "fnStateSizeSplitsAndEmptyCost", fn := fun _ => fun
  | [d1, d2, d3, d4, d5] => { results := [.lit (.bool true)], args := [d1, d2, d3, d4, d5] }
  | _ => none }
def fnStateSizeSplitsAndEmptyCostRow : OpenClaim := { program := "qxb6616228a", sum := "2d49f53cff25a468a83253bd2b3932b660cbe5c29b98700e04fcbae52db2f0b5", func := "example.com/callwarden/callwarden/zzlaws_policy_b1.FnStateSizeSplitsAndEmptyCost", spec := "fnStateSizeSplitsAndEmptyCost", apart := false }
def FnStateSizeSplitsAndEmptyCostSaid : Prop := fnStateSizeSplitsAndEmptyCostRow.holds Try.pinned (OpenSpec.ofChange fnStateSizeSplitsAndEmptyCostSpec)

/-- ITS FALSE NEIGHBOUR: 'it returns false'. Refute it at one input. -/
def fnStateSizeSplitsAndEmptyCostWrong : ChangeSpec := { name := "fnStateSizeSplitsAndEmptyCost", fn := fun _ => fun
  | [d1, d2, d3, d4, d5] => { results := [.lit (.bool false)], args := [d1, d2, d3, d4, d5] }
  | _ => none }
def FnStateSizeSplitsAndEmptyCostWrongFalsely : Prop := fnStateSizeSplitsAndEmptyCostRow.holds Try.pinned (OpenSpec.ofChange fnStateSizeSplitsAndEmptyCostWrong)

end Rows
end Go.Proofs.Qxb6616228a
