/-
  No cell of these rows narrows 'for every input' (looked for: loops, veiled, ifaces, maps, wideKeys, modest, calm, conditions, laid).
  DERIVED. THE GIVEN ROWS OF THIS SEAT. 6 by the template 'for every input the law returns true; each argument reads behind the call as it read before'; 0 by the template 'total and deterministic' (their statements: Qxb6602383aTotals.lean).
  GIVEN WITH THE SEED: the statements are not yours to turn. If you find one false, say at which input.
  Laid BY PROGRAM, IN A SANDBOX (cutbox-rows.mjs): the forced cells as the released guide's own fill.sh prints them over the translation 2d4d96e66d1b0861… (all of the seat's roots in one cut). By AI agents, Wed Nov 11 2026. No macro, syntax, notation, axiom, sorry.
-/
import Derived.Test.Qxb6602383aChecked
import GoSem.Claim
import GoSem.ClaimJoined
import GoSem.ClaimMapViews
import Derived.JoinedTies
import Derived.KernelRfl
namespace Go.Proofs.Qxb6602383a
/- THE CELL 'sum', in the pinned program and in every row, IS THE sha256 OF THE DUMP (.gsa) THAT Qxb6602383aProg.lean LOADS. Nothing in Lean hashes anything: it is a label: what it is worth is what the hold of that sum in a sandbox is worth. -/
noncomputable def Try.pinned : Pinned := { name := "qxb6602383a", sum := "2d4d96e66d1b086177e1feb5ec56e42d033394456864f23dca99604da01b7705", checked := Try.checked }
namespace Rows
def none {H : Type} : Left H := { results := [], args := [] }

/-- 'zzlaws_internal_window_b1.FnRepeatMatchesByteModel': WHATEVER THE INPUT: true; the input reads as it did. -/
def fnRepeatMatchesByteModelSpec : ChangeSpec := { name := "fnRepeatMatchesByteModel", fn := fun _ => fun
  | [d1, d2, d3, d4, d5, d6, d7, d8, d9] => { results := [.lit (.bool true)], args := [d1, d2, d3, d4, d5, d6, d7, d8, d9] }
  | _ => none }
def fnRepeatMatchesByteModelRow : OpenClaim := { program := "qxb6602383a", sum := "2d4d96e66d1b086177e1feb5ec56e42d033394456864f23dca99604da01b7705", func := "example.com/garlic/garlic/zzlaws_internal_window_b1.FnRepeatMatchesByteModel", spec := "fnRepeatMatchesByteModel", apart := false }
def FnRepeatMatchesByteModelSaid : Prop := fnRepeatMatchesByteModelRow.holds Try.pinned (OpenSpec.ofChange fnRepeatMatchesByteModelSpec)

/-- ITS FALSE NEIGHBOUR: 'it returns false'. Refute it at one input. -/
def fnRepeatMatchesByteModelWrong : ChangeSpec := { name := "fnRepeatMatchesByteModel", fn := fun _ => fun
  | [d1, d2, d3, d4, d5, d6, d7, d8, d9] => { results := [.lit (.bool false)], args := [d1, d2, d3, d4, d5, d6, d7, d8, d9] }
  | _ => none }
def FnRepeatMatchesByteModelWrongFalsely : Prop := fnRepeatMatchesByteModelRow.holds Try.pinned (OpenSpec.ofChange fnRepeatMatchesByteModelWrong)

/-- 'zzlaws_internal_window_b1.FnRepeatSplitIsOneMatch': WHATEVER THE INPUT: true; the input reads as it did. -/
def fnRepeatSplitIsOneMatchSpec : ChangeSpec := { name := "fnRepeatSplitIsOneMatch", fn := fun _ => fun
  | [d1, d2, d3, d4, d5, d6, d7, d8, d9, d10] => { results := [.lit (.bool true)], args := [d1, d2, d3, d4, d5, d6, d7, d8, d9, d10] }
  | _ => none }
def fnRepeatSplitIsOneMatchRow : OpenClaim := { program := "qxb6602383a", sum := "2d4d96e66d1b086177e1feb5ec56e42d033394456864f23dca99604da01b7705", func := "example.com/garlic/garlic/zzlaws_internal_window_b1.FnRepeatSplitIsOneMatch", spec := "fnRepeatSplitIsOneMatch", apart := false }
def FnRepeatSplitIsOneMatchSaid : Prop := fnRepeatSplitIsOneMatchRow.holds Try.pinned (OpenSpec.ofChange fnRepeatSplitIsOneMatchSpec)

/-- ITS FALSE NEIGHBOUR: 'it returns false'. Refute it at one input. -/
def fnRepeatSplitIsOneMatchWrong : ChangeSpec := { name := "fnRepeatSplitIsOneMatch", fn := fun _ => fun
  | [d1, d2, d3, d4, d5, d6, d7, d8, d9, d10] => { results := [.lit (.bool false)], args := [d1, d2, d3, d4, d5, d6, d7, d8, d9, d10] }
  | _ => none }
def FnRepeatSplitIsOneMatchWrongFalsely : Prop := fnRepeatSplitIsOneMatchRow.holds Try.pinned (OpenSpec.ofChange fnRepeatSplitIsOneMatchWrong)

/-- 'zzlaws_internal_window_b1.FnCarryWideMatchesByteModel': WHATEVER THE INPUT: true; the input reads as it did. -/
def fnCarryWideMatchesByteModelSpec : ChangeSpec := { name := "fnCarryWideMatchesByteModel", fn := fun _ => fun
  | [d1, d2, d3, d4, d5, d6, d7, d8, d9] => { results := [.lit (.bool true)], args := [d1, d2, d3, d4, d5, d6, d7, d8, d9] }
  | _ => none }
def fnCarryWideMatchesByteModelRow : OpenClaim := { program := "qxb6602383a", sum := "2d4d96e66d1b086177e1feb5ec56e42d033394456864f23dca99604da01b7705", func := "example.com/garlic/garlic/zzlaws_internal_window_b1.FnCarryWideMatchesByteModel", spec := "fnCarryWideMatchesByteModel", apart := false }
def FnCarryWideMatchesByteModelSaid : Prop := fnCarryWideMatchesByteModelRow.holds Try.pinned (OpenSpec.ofChange fnCarryWideMatchesByteModelSpec)

/-- ITS FALSE NEIGHBOUR: 'it returns false'. Refute it at one input. -/
def fnCarryWideMatchesByteModelWrong : ChangeSpec := { name := "fnCarryWideMatchesByteModel", fn := fun _ => fun
  | [d1, d2, d3, d4, d5, d6, d7, d8, d9] => { results := [.lit (.bool false)], args := [d1, d2, d3, d4, d5, d6, d7, d8, d9] }
  | _ => none }
def FnCarryWideMatchesByteModelWrongFalsely : Prop := fnCarryWideMatchesByteModelRow.holds Try.pinned (OpenSpec.ofChange fnCarryWideMatchesByteModelWrong)

/-- 'zzlaws_internal_window_b1.FnCarryWideTakesWholeFarBatch': WHATEVER THE INPUT: true; the input reads as it did. -/
def fnCarryWideTakesWholeFarBatchSpec : ChangeSpec := { name := "fnCarryWideTakesWholeFarBatch", fn := fun _ => fun
  | [d1, d2, d3, d4, d5, d6, d7, d8, d9] => { results := [.lit (.bool true)], args := [d1, d2, d3, d4, d5, d6, d7, d8, d9] }
  | _ => none }
def fnCarryWideTakesWholeFarBatchRow : OpenClaim := { program := "qxb6602383a", sum := "2d4d96e66d1b086177e1feb5ec56e42d033394456864f23dca99604da01b7705", func := "example.com/garlic/garlic/zzlaws_internal_window_b1.FnCarryWideTakesWholeFarBatch", spec := "fnCarryWideTakesWholeFarBatch", apart := false }
def FnCarryWideTakesWholeFarBatchSaid : Prop := fnCarryWideTakesWholeFarBatchRow.holds Try.pinned (OpenSpec.ofChange fnCarryWideTakesWholeFarBatchSpec)

/-- ITS FALSE NEIGHBOUR: 'it returns false'. Refute it at one input. -/
def fnCarryWideTakesWholeFarBatchWrong : ChangeSpec := { name := "fnCarryWideTakesWholeFarBatch", fn := fun _ => fun
  | [d1, d2, d3, d4, d5, d6, d7, d8, d9] => { results := [.lit (.bool false)], args := [d1, d2, d3, d4, d5, d6, d7, d8, d9] }
  | _ => none }
def FnCarryWideTakesWholeFarBatchWrongFalsely : Prop := fnCarryWideTakesWholeFarBatchRow.holds Try.pinned (OpenSpec.ofChange fnCarryWideTakesWholeFarBatchWrong)

/-- 'zzlaws_internal_window_b1.FnCarryMatchesByteModel': WHATEVER THE INPUT: true; the input reads as it did. -/
def fnCarryMatchesByteModelSpec : ChangeSpec := { name := "fnCarryMatchesByteModel", fn := fun _ => fun
  | [d1, d2, d3, d4, d5, d6, d7, d8, d9] => { results := [.lit (.bool true)], args := [d1, d2, d3, d4, d5, d6, d7, d8, d9] }
  | _ => none }
def fnCarryMatchesByteModelRow : OpenClaim := { program := "qxb6602383a", sum := "2d4d96e66d1b086177e1feb5ec56e42d033394456864f23dca99604da01b7705", func := "example.com/garlic/garlic/zzlaws_internal_window_b1.FnCarryMatchesByteModel", spec := "fnCarryMatchesByteModel", apart := false }
def FnCarryMatchesByteModelSaid : Prop := fnCarryMatchesByteModelRow.holds Try.pinned (OpenSpec.ofChange fnCarryMatchesByteModelSpec)

/-- ITS FALSE NEIGHBOUR: 'it returns false'. Refute it at one input. -/
def fnCarryMatchesByteModelWrong : ChangeSpec := { name := "fnCarryMatchesByteModel", fn := fun _ => fun
  | [d1, d2, d3, d4, d5, d6, d7, d8, d9] => { results := [.lit (.bool false)], args := [d1, d2, d3, d4, d5, d6, d7, d8, d9] }
  | _ => none }
def FnCarryMatchesByteModelWrongFalsely : Prop := fnCarryMatchesByteModelRow.holds Try.pinned (OpenSpec.ofChange fnCarryMatchesByteModelWrong)

/-- 'zzlaws_internal_window_b1.FnCarryAgreesWithWriteAndRepeat': WHATEVER THE INPUT: true; the input reads as it did. -/
def fnCarryAgreesWithWriteAndRepeatSpec : ChangeSpec := { name := "fnCarryAgreesWithWriteAndRepeat", fn := fun _ => fun
  | [d1, d2, d3, d4, d5, d6, d7, d8, d9] => { results := [.lit (.bool true)], args := [d1, d2, d3, d4, d5, d6, d7, d8, d9] }
  | _ => none }
def fnCarryAgreesWithWriteAndRepeatRow : OpenClaim := { program := "qxb6602383a", sum := "2d4d96e66d1b086177e1feb5ec56e42d033394456864f23dca99604da01b7705", func := "example.com/garlic/garlic/zzlaws_internal_window_b1.FnCarryAgreesWithWriteAndRepeat", spec := "fnCarryAgreesWithWriteAndRepeat", apart := false }
def FnCarryAgreesWithWriteAndRepeatSaid : Prop := fnCarryAgreesWithWriteAndRepeatRow.holds Try.pinned (OpenSpec.ofChange fnCarryAgreesWithWriteAndRepeatSpec)

/-- ITS FALSE NEIGHBOUR: 'it returns false'. Refute it at one input. -/
def fnCarryAgreesWithWriteAndRepeatWrong : ChangeSpec := { name := "fnCarryAgreesWithWriteAndRepeat", fn := fun _ => fun
  | [d1, d2, d3, d4, d5, d6, d7, d8, d9] => { results := [.lit (.bool false)], args := [d1, d2, d3, d4, d5, d6, d7, d8, d9] }
  | _ => none }
def FnCarryAgreesWithWriteAndRepeatWrongFalsely : Prop := fnCarryAgreesWithWriteAndRepeatRow.holds Try.pinned (OpenSpec.ofChange fnCarryAgreesWithWriteAndRepeatWrong)

end Rows
end Go.Proofs.Qxb6602383a
