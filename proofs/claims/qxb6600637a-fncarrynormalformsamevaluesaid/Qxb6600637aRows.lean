/-
  No cell of these rows narrows 'for every input' (looked for: loops, veiled, ifaces, maps, wideKeys, modest, calm, conditions, laid).
  DERIVED. THE GIVEN ROWS OF THIS SEAT. 7 by the template 'for every input the law returns true; each argument reads behind the call as it read before'; 0 by the template 'total and deterministic' (their statements: Qxb6600637aTotals.lean).
  GIVEN WITH THE SEED: the statements are not yours to turn. If you find one false, say at which input.
  Laid BY PROGRAM, IN A SANDBOX (cutbox-rows.mjs): the forced cells as the released guide's own fill.sh prints them over the translation b9f2ac3a6dd5918b… (all of the seat's roots in one cut). By AI agents, Wed Nov 11 2026. No macro, syntax, notation, axiom, sorry.
-/
import Derived.Test.Qxb6600637aChecked
import GoSem.Claim
import GoSem.ClaimJoined
import GoSem.ClaimMapViews
import Derived.JoinedTies
import Derived.KernelRfl
namespace Go.Proofs.Qxb6600637a
/- THE CELL 'sum', in the pinned program and in every row, IS THE sha256 OF THE DUMP (.gsa) THAT Qxb6600637aProg.lean LOADS. Nothing in Lean hashes anything: it is a label: what it is worth is what the hold of that sum in a sandbox is worth. -/
noncomputable def Try.pinned : Pinned := { name := "qxb6600637a", sum := "b9f2ac3a6dd5918b649023a1a2bc94116fec7e77764258947046581368699463", checked := Try.checked }
namespace Rows
def none {H : Type} : Left H := { results := [], args := [] }

/-- 'zzlaws_root_b1.FnEqualSymmetric': WHATEVER THE INPUT: true; the input reads as it did. -/
def fnEqualSymmetricSpec : ChangeSpec := { name := "fnEqualSymmetric", fn := fun _ => fun
  | [d1, d2, d3, d4, d5, d6, d7, d8, d9, d10] => { results := [.lit (.bool true)], args := [d1, d2, d3, d4, d5, d6, d7, d8, d9, d10] }
  | _ => none }
def fnEqualSymmetricRow : OpenClaim := { program := "qxb6600637a", sum := "b9f2ac3a6dd5918b649023a1a2bc94116fec7e77764258947046581368699463", func := "example.com/mediation/mediation/zzlaws_root_b1.FnEqualSymmetric", spec := "fnEqualSymmetric", apart := false }
def FnEqualSymmetricSaid : Prop := fnEqualSymmetricRow.holds Try.pinned (OpenSpec.ofChange fnEqualSymmetricSpec)

/-- ITS FALSE NEIGHBOUR: 'it returns false'. Refute it at one input. -/
def fnEqualSymmetricWrong : ChangeSpec := { name := "fnEqualSymmetric", fn := fun _ => fun
  | [d1, d2, d3, d4, d5, d6, d7, d8, d9, d10] => { results := [.lit (.bool false)], args := [d1, d2, d3, d4, d5, d6, d7, d8, d9, d10] }
  | _ => none }
def FnEqualSymmetricWrongFalsely : Prop := fnEqualSymmetricRow.holds Try.pinned (OpenSpec.ofChange fnEqualSymmetricWrong)

/-- 'zzlaws_root_b1.FnEqualIgnoresOtherFields': WHATEVER THE INPUT: true; the input reads as it did. -/
def fnEqualIgnoresOtherFieldsSpec : ChangeSpec := { name := "fnEqualIgnoresOtherFields", fn := fun _ => fun
  | [d1, d2, d3, d4, d5, d6, d7, d8, d9] => { results := [.lit (.bool true)], args := [d1, d2, d3, d4, d5, d6, d7, d8, d9] }
  | _ => none }
def fnEqualIgnoresOtherFieldsRow : OpenClaim := { program := "qxb6600637a", sum := "b9f2ac3a6dd5918b649023a1a2bc94116fec7e77764258947046581368699463", func := "example.com/mediation/mediation/zzlaws_root_b1.FnEqualIgnoresOtherFields", spec := "fnEqualIgnoresOtherFields", apart := false }
def FnEqualIgnoresOtherFieldsSaid : Prop := fnEqualIgnoresOtherFieldsRow.holds Try.pinned (OpenSpec.ofChange fnEqualIgnoresOtherFieldsSpec)

/-- ITS FALSE NEIGHBOUR: 'it returns false'. Refute it at one input. -/
def fnEqualIgnoresOtherFieldsWrong : ChangeSpec := { name := "fnEqualIgnoresOtherFields", fn := fun _ => fun
  | [d1, d2, d3, d4, d5, d6, d7, d8, d9] => { results := [.lit (.bool false)], args := [d1, d2, d3, d4, d5, d6, d7, d8, d9] }
  | _ => none }
def FnEqualIgnoresOtherFieldsWrongFalsely : Prop := fnEqualIgnoresOtherFieldsRow.holds Try.pinned (OpenSpec.ofChange fnEqualIgnoresOtherFieldsWrong)

/-- 'zzlaws_root_b1.FnCarryNormalFormSameValue': WHATEVER THE INPUT: true; the input reads as it did. -/
def fnCarryNormalFormSameValueSpec : ChangeSpec := { name := "fnCarryNormalFormSameValue", fn := fun _ => fun
  | [d1, d2, d3] => { results := [.lit (.bool true)], args := [d1, d2, d3] }
  | _ => none }
def fnCarryNormalFormSameValueRow : OpenClaim := { program := "qxb6600637a", sum := "b9f2ac3a6dd5918b649023a1a2bc94116fec7e77764258947046581368699463", func := "example.com/mediation/mediation/zzlaws_root_b1.FnCarryNormalFormSameValue", spec := "fnCarryNormalFormSameValue", apart := false }
def FnCarryNormalFormSameValueSaid : Prop := fnCarryNormalFormSameValueRow.holds Try.pinned (OpenSpec.ofChange fnCarryNormalFormSameValueSpec)

/-- ITS FALSE NEIGHBOUR: 'it returns false'. Refute it at one input. -/
def fnCarryNormalFormSameValueWrong : ChangeSpec := { name := "fnCarryNormalFormSameValue", fn := fun _ => fun
  | [d1, d2, d3] => { results := [.lit (.bool false)], args := [d1, d2, d3] }
  | _ => none }
def FnCarryNormalFormSameValueWrongFalsely : Prop := fnCarryNormalFormSameValueRow.holds Try.pinned (OpenSpec.ofChange fnCarryNormalFormSameValueWrong)

/-- 'zzlaws_root_b1.FnCarryWindowAgreesWithFull': WHATEVER THE INPUT: true; the input reads as it did. -/
def fnCarryWindowAgreesWithFullSpec : ChangeSpec := { name := "fnCarryWindowAgreesWithFull", fn := fun _ => fun
  | [d1, d2, d3] => { results := [.lit (.bool true)], args := [d1, d2, d3] }
  | _ => none }
def fnCarryWindowAgreesWithFullRow : OpenClaim := { program := "qxb6600637a", sum := "b9f2ac3a6dd5918b649023a1a2bc94116fec7e77764258947046581368699463", func := "example.com/mediation/mediation/zzlaws_root_b1.FnCarryWindowAgreesWithFull", spec := "fnCarryWindowAgreesWithFull", apart := false }
def FnCarryWindowAgreesWithFullSaid : Prop := fnCarryWindowAgreesWithFullRow.holds Try.pinned (OpenSpec.ofChange fnCarryWindowAgreesWithFullSpec)

/-- ITS FALSE NEIGHBOUR: 'it returns false'. Refute it at one input. -/
def fnCarryWindowAgreesWithFullWrong : ChangeSpec := { name := "fnCarryWindowAgreesWithFull", fn := fun _ => fun
  | [d1, d2, d3] => { results := [.lit (.bool false)], args := [d1, d2, d3] }
  | _ => none }
def FnCarryWindowAgreesWithFullWrongFalsely : Prop := fnCarryWindowAgreesWithFullRow.holds Try.pinned (OpenSpec.ofChange fnCarryWindowAgreesWithFullWrong)

/-- 'zzlaws_root_b1.FnCarryIdempotent': WHATEVER THE INPUT: true; the input reads as it did. -/
def fnCarryIdempotentSpec : ChangeSpec := { name := "fnCarryIdempotent", fn := fun _ => fun
  | [d1, d2, d3] => { results := [.lit (.bool true)], args := [d1, d2, d3] }
  | _ => none }
def fnCarryIdempotentRow : OpenClaim := { program := "qxb6600637a", sum := "b9f2ac3a6dd5918b649023a1a2bc94116fec7e77764258947046581368699463", func := "example.com/mediation/mediation/zzlaws_root_b1.FnCarryIdempotent", spec := "fnCarryIdempotent", apart := false }
def FnCarryIdempotentSaid : Prop := fnCarryIdempotentRow.holds Try.pinned (OpenSpec.ofChange fnCarryIdempotentSpec)

/-- ITS FALSE NEIGHBOUR: 'it returns false'. Refute it at one input. -/
def fnCarryIdempotentWrong : ChangeSpec := { name := "fnCarryIdempotent", fn := fun _ => fun
  | [d1, d2, d3] => { results := [.lit (.bool false)], args := [d1, d2, d3] }
  | _ => none }
def FnCarryIdempotentWrongFalsely : Prop := fnCarryIdempotentRow.holds Try.pinned (OpenSpec.ofChange fnCarryIdempotentWrong)

/-- 'zzlaws_root_b1.FnSplitAtCaseTable': WHATEVER THE INPUT: true; the input reads as it did. -/
def fnSplitAtCaseTableSpec : ChangeSpec := { name := "fnSplitAtCaseTable", fn := fun _ => fun
  | [d1, d2, d3, d4, d5, d6, d7, d8] => { results := [.lit (.bool true)], args := [d1, d2, d3, d4, d5, d6, d7, d8] }
  | _ => none }
def fnSplitAtCaseTableRow : OpenClaim := { program := "qxb6600637a", sum := "b9f2ac3a6dd5918b649023a1a2bc94116fec7e77764258947046581368699463", func := "example.com/mediation/mediation/zzlaws_root_b1.FnSplitAtCaseTable", spec := "fnSplitAtCaseTable", recurses := true, apart := false }
def FnSplitAtCaseTableSaid : Prop := fnSplitAtCaseTableRow.holds Try.pinned (OpenSpec.ofChange fnSplitAtCaseTableSpec)

/-- ITS FALSE NEIGHBOUR: 'it returns false'. Refute it at one input. -/
def fnSplitAtCaseTableWrong : ChangeSpec := { name := "fnSplitAtCaseTable", fn := fun _ => fun
  | [d1, d2, d3, d4, d5, d6, d7, d8] => { results := [.lit (.bool false)], args := [d1, d2, d3, d4, d5, d6, d7, d8] }
  | _ => none }
def FnSplitAtCaseTableWrongFalsely : Prop := fnSplitAtCaseTableRow.holds Try.pinned (OpenSpec.ofChange fnSplitAtCaseTableWrong)

/-- 'zzlaws_root_b1.FnSplitAtMirror': WHATEVER THE INPUT: true; the input reads as it did. -/
def fnSplitAtMirrorSpec : ChangeSpec := { name := "fnSplitAtMirror", fn := fun _ => fun
  | [d1, d2, d3, d4, d5, d6, d7, d8] => { results := [.lit (.bool true)], args := [d1, d2, d3, d4, d5, d6, d7, d8] }
  | _ => none }
def fnSplitAtMirrorRow : OpenClaim := { program := "qxb6600637a", sum := "b9f2ac3a6dd5918b649023a1a2bc94116fec7e77764258947046581368699463", func := "example.com/mediation/mediation/zzlaws_root_b1.FnSplitAtMirror", spec := "fnSplitAtMirror", recurses := true, apart := false }
def FnSplitAtMirrorSaid : Prop := fnSplitAtMirrorRow.holds Try.pinned (OpenSpec.ofChange fnSplitAtMirrorSpec)

/-- ITS FALSE NEIGHBOUR: 'it returns false'. Refute it at one input. -/
def fnSplitAtMirrorWrong : ChangeSpec := { name := "fnSplitAtMirror", fn := fun _ => fun
  | [d1, d2, d3, d4, d5, d6, d7, d8] => { results := [.lit (.bool false)], args := [d1, d2, d3, d4, d5, d6, d7, d8] }
  | _ => none }
def FnSplitAtMirrorWrongFalsely : Prop := fnSplitAtMirrorRow.holds Try.pinned (OpenSpec.ofChange fnSplitAtMirrorWrong)

end Rows
end Go.Proofs.Qxb6600637a
