/-
  No cell of these rows narrows 'for every input' (looked for: loops, veiled, ifaces, maps, wideKeys, modest, calm, conditions, laid).
  DERIVED. THE GIVEN ROWS OF THIS SEAT. 6 by the template 'for every input the law returns true; each argument reads behind the call as it read before'; 0 by the template 'total and deterministic' (their statements: Qxb6000443aTotals.lean).
  GIVEN WITH THE SEED: the statements are not yours to turn. If you find one false, say at which input.
  Laid BY PROGRAM, IN A SANDBOX (cutbox-rows.mjs): the forced cells as the released guide's own fill.sh prints them over the translation 56b9ecbf0cff288c… (all of the seat's roots in one cut). By AI agents, Wed Nov 11 2026. No macro, syntax, notation, axiom, sorry.
-/
import Derived.Test.Qxb6000443aChecked
import GoSem.Claim
import GoSem.ClaimJoined
import GoSem.ClaimMapViews
import Derived.JoinedTies
import Derived.KernelRfl
namespace Go.Proofs.Qxb6000443a
/- THE CELL 'sum', in the pinned program and in every row, IS THE sha256 OF THE DUMP (.gsa) THAT Qxb6000443aProg.lean LOADS. Nothing in Lean hashes anything: it is a label: what it is worth is what the hold of that sum in a sandbox is worth. -/
noncomputable def Try.pinned : Pinned := { name := "qxb6000443a", sum := "56b9ecbf0cff288c8bd5aca1f5f0af93b938006b2c6fcbb5c42df7012b0b8be7", checked := Try.checked }
namespace Rows
def none {H : Type} : Left H := { results := [], args := [] }

/-- 'zzlaws_internal_blocks_b1.FnInstructionsSizeIgnoresOtherFlagBits': WHATEVER THE INPUT: true; the input reads as it did. -/
def fnInstructionsSizeIgnoresOtherFlagBitsSpec : ChangeSpec := { name := "fnInstructionsSizeIgnoresOtherFlagBits", fn := fun _ => fun
  | [d] => { results := [.lit (.bool true)], args := [d] }
  | _ => none }
def fnInstructionsSizeIgnoresOtherFlagBitsRow : OpenClaim := { program := "qxb6000443a", sum := "56b9ecbf0cff288c8bd5aca1f5f0af93b938006b2c6fcbb5c42df7012b0b8be7", func := "example.com/pawl/zzlaws_internal_blocks_b1.FnInstructionsSizeIgnoresOtherFlagBits", spec := "fnInstructionsSizeIgnoresOtherFlagBits", apart := false }
def FnInstructionsSizeIgnoresOtherFlagBitsSaid : Prop := fnInstructionsSizeIgnoresOtherFlagBitsRow.holds Try.pinned (OpenSpec.ofChange fnInstructionsSizeIgnoresOtherFlagBitsSpec)

/-- ITS FALSE NEIGHBOUR: 'it returns false'. Refute it at one input. -/
def fnInstructionsSizeIgnoresOtherFlagBitsWrong : ChangeSpec := { name := "fnInstructionsSizeIgnoresOtherFlagBits", fn := fun _ => fun
  | [d] => { results := [.lit (.bool false)], args := [d] }
  | _ => none }
def FnInstructionsSizeIgnoresOtherFlagBitsWrongFalsely : Prop := fnInstructionsSizeIgnoresOtherFlagBitsRow.holds Try.pinned (OpenSpec.ofChange fnInstructionsSizeIgnoresOtherFlagBitsWrong)

/-- 'zzlaws_internal_blocks_b1.FnInstructionsSizeByParts': WHATEVER THE INPUT: true; the input reads as it did. -/
def fnInstructionsSizeByPartsSpec : ChangeSpec := { name := "fnInstructionsSizeByParts", fn := fun _ => fun
  | [d] => { results := [.lit (.bool true)], args := [d] }
  | _ => none }
def fnInstructionsSizeByPartsRow : OpenClaim := { program := "qxb6000443a", sum := "56b9ecbf0cff288c8bd5aca1f5f0af93b938006b2c6fcbb5c42df7012b0b8be7", func := "example.com/pawl/zzlaws_internal_blocks_b1.FnInstructionsSizeByParts", spec := "fnInstructionsSizeByParts", apart := false }
def FnInstructionsSizeByPartsSaid : Prop := fnInstructionsSizeByPartsRow.holds Try.pinned (OpenSpec.ofChange fnInstructionsSizeByPartsSpec)

/-- ITS FALSE NEIGHBOUR: 'it returns false'. Refute it at one input. -/
def fnInstructionsSizeByPartsWrong : ChangeSpec := { name := "fnInstructionsSizeByParts", fn := fun _ => fun
  | [d] => { results := [.lit (.bool false)], args := [d] }
  | _ => none }
def FnInstructionsSizeByPartsWrongFalsely : Prop := fnInstructionsSizeByPartsRow.holds Try.pinned (OpenSpec.ofChange fnInstructionsSizeByPartsWrong)

/-- 'zzlaws_internal_blocks_b1.FnInstructionsSizeMonotoneInBits': WHATEVER THE INPUT: true; the input reads as it did. -/
def fnInstructionsSizeMonotoneInBitsSpec : ChangeSpec := { name := "fnInstructionsSizeMonotoneInBits", fn := fun _ => fun
  | [d1, d2] => { results := [.lit (.bool true)], args := [d1, d2] }
  | _ => none }
def fnInstructionsSizeMonotoneInBitsRow : OpenClaim := { program := "qxb6000443a", sum := "56b9ecbf0cff288c8bd5aca1f5f0af93b938006b2c6fcbb5c42df7012b0b8be7", func := "example.com/pawl/zzlaws_internal_blocks_b1.FnInstructionsSizeMonotoneInBits", spec := "fnInstructionsSizeMonotoneInBits", apart := false }
def FnInstructionsSizeMonotoneInBitsSaid : Prop := fnInstructionsSizeMonotoneInBitsRow.holds Try.pinned (OpenSpec.ofChange fnInstructionsSizeMonotoneInBitsSpec)

/-- ITS FALSE NEIGHBOUR: 'it returns false'. Refute it at one input. -/
def fnInstructionsSizeMonotoneInBitsWrong : ChangeSpec := { name := "fnInstructionsSizeMonotoneInBits", fn := fun _ => fun
  | [d1, d2] => { results := [.lit (.bool false)], args := [d1, d2] }
  | _ => none }
def FnInstructionsSizeMonotoneInBitsWrongFalsely : Prop := fnInstructionsSizeMonotoneInBitsRow.holds Try.pinned (OpenSpec.ofChange fnInstructionsSizeMonotoneInBitsWrong)

/-- 'zzlaws_internal_blocks_b1.FnExistingSessionAllowsEveryType': WHATEVER THE INPUT: true; the input reads as it did. -/
def fnExistingSessionAllowsEveryTypeSpec : ChangeSpec := { name := "fnExistingSessionAllowsEveryType", fn := fun _ => fun
  | [d] => { results := [.lit (.bool true)], args := [d] }
  | _ => none }
def fnExistingSessionAllowsEveryTypeRow : OpenClaim := { program := "qxb6000443a", sum := "56b9ecbf0cff288c8bd5aca1f5f0af93b938006b2c6fcbb5c42df7012b0b8be7", func := "example.com/pawl/zzlaws_internal_blocks_b1.FnExistingSessionAllowsEveryType", spec := "fnExistingSessionAllowsEveryType", apart := false }
def FnExistingSessionAllowsEveryTypeSaid : Prop := fnExistingSessionAllowsEveryTypeRow.holds Try.pinned (OpenSpec.ofChange fnExistingSessionAllowsEveryTypeSpec)

/-- ITS FALSE NEIGHBOUR: 'it returns false'. Refute it at one input. -/
def fnExistingSessionAllowsEveryTypeWrong : ChangeSpec := { name := "fnExistingSessionAllowsEveryType", fn := fun _ => fun
  | [d] => { results := [.lit (.bool false)], args := [d] }
  | _ => none }
def FnExistingSessionAllowsEveryTypeWrongFalsely : Prop := fnExistingSessionAllowsEveryTypeRow.holds Try.pinned (OpenSpec.ofChange fnExistingSessionAllowsEveryTypeWrong)

/-- 'zzlaws_internal_blocks_b1.FnNonExistingKindsAgree': WHATEVER THE INPUT: true; the input reads as it did. -/
def fnNonExistingKindsAgreeSpec : ChangeSpec := { name := "fnNonExistingKindsAgree", fn := fun _ => fun
  | [d1, d2, d3] => { results := [.lit (.bool true)], args := [d1, d2, d3] }
  | _ => none }
def fnNonExistingKindsAgreeRow : OpenClaim := { program := "qxb6000443a", sum := "56b9ecbf0cff288c8bd5aca1f5f0af93b938006b2c6fcbb5c42df7012b0b8be7", func := "example.com/pawl/zzlaws_internal_blocks_b1.FnNonExistingKindsAgree", spec := "fnNonExistingKindsAgree", apart := false }
def FnNonExistingKindsAgreeSaid : Prop := fnNonExistingKindsAgreeRow.holds Try.pinned (OpenSpec.ofChange fnNonExistingKindsAgreeSpec)

/-- ITS FALSE NEIGHBOUR: 'it returns false'. Refute it at one input. -/
def fnNonExistingKindsAgreeWrong : ChangeSpec := { name := "fnNonExistingKindsAgree", fn := fun _ => fun
  | [d1, d2, d3] => { results := [.lit (.bool false)], args := [d1, d2, d3] }
  | _ => none }
def FnNonExistingKindsAgreeWrongFalsely : Prop := fnNonExistingKindsAgreeRow.holds Try.pinned (OpenSpec.ofChange fnNonExistingKindsAgreeWrong)

/-- 'zzlaws_internal_blocks_b1.FnRefusedTypesOfAKind': WHATEVER THE INPUT: true; the input reads as it did. -/
def fnRefusedTypesOfAKindSpec : ChangeSpec := { name := "fnRefusedTypesOfAKind", fn := fun _ => fun
  | [d] => { results := [.lit (.bool true)], args := [d] }
  | _ => none }
def fnRefusedTypesOfAKindRow : OpenClaim := { program := "qxb6000443a", sum := "56b9ecbf0cff288c8bd5aca1f5f0af93b938006b2c6fcbb5c42df7012b0b8be7", func := "example.com/pawl/zzlaws_internal_blocks_b1.FnRefusedTypesOfAKind", spec := "fnRefusedTypesOfAKind", apart := false }
def FnRefusedTypesOfAKindSaid : Prop := fnRefusedTypesOfAKindRow.holds Try.pinned (OpenSpec.ofChange fnRefusedTypesOfAKindSpec)

/-- ITS FALSE NEIGHBOUR: 'it returns false'. Refute it at one input. -/
def fnRefusedTypesOfAKindWrong : ChangeSpec := { name := "fnRefusedTypesOfAKind", fn := fun _ => fun
  | [d] => { results := [.lit (.bool false)], args := [d] }
  | _ => none }
def FnRefusedTypesOfAKindWrongFalsely : Prop := fnRefusedTypesOfAKindRow.holds Try.pinned (OpenSpec.ofChange fnRefusedTypesOfAKindWrong)

end Rows
end Go.Proofs.Qxb6000443a
