/-
  No cell of these rows narrows 'for every input' (looked for: loops, veiled, ifaces, maps, wideKeys, modest, calm, conditions, laid).
  DERIVED. THE GIVEN ROWS OF THIS SEAT. 8 by the template 'for every input the law returns true; each argument reads behind the call as it read before'; 0 by the template 'total and deterministic' (their statements: Qxb6000411aTotals.lean).
  GIVEN WITH THE SEED: the statements are not yours to turn. If you find one false, say at which input.
  Laid BY PROGRAM, IN A SANDBOX (cutbox-rows.mjs): the forced cells as the released guide's own fill.sh prints them over the translation 6f78a2f1772684ac… (all of the seat's roots in one cut). By AI agents, Wed Nov 11 2026. No macro, syntax, notation, axiom, sorry.
-/
import Derived.Test.Qxb6000411aChecked
import GoSem.Claim
import GoSem.ClaimJoined
import GoSem.ClaimMapViews
import Derived.JoinedTies
import Derived.KernelRfl
namespace Go.Proofs.Qxb6000411a
/- THE CELL 'sum', in the pinned program and in every row, IS THE sha256 OF THE DUMP (.gsa) THAT Qxb6000411aProg.lean LOADS. Nothing in Lean hashes anything: it is a label: what it is worth is what the hold of that sum in a sandbox is worth. -/
noncomputable def Try.pinned : Pinned := { name := "qxb6000411a", sum := "6f78a2f1772684acaccc16714f00eb519ce0fd28ae7818aed71c83e4ebe3249a", checked := Try.checked }
namespace Rows
def none {H : Type} : Left H := { results := [], args := [] }

/-- 'zzlaws_internal_shell_b1.FnScanNonPermutingOperandsAreATail': WHATEVER THE INPUT: true; the input reads as it did. -/
def fnScanNonPermutingOperandsAreATailSpec : ChangeSpec := { name := "fnScanNonPermutingOperandsAreATail", fn := fun _ => fun
  | [d1, d2, d3, d4, d5, d6, d7, d8] => { results := [.lit (.bool true)], args := [d1, d2, d3, d4, d5, d6, d7, d8] }
  | _ => none }
def fnScanNonPermutingOperandsAreATailRow : OpenClaim := { program := "qxb6000411a", sum := "6f78a2f1772684acaccc16714f00eb519ce0fd28ae7818aed71c83e4ebe3249a", func := "example.com/hookwarden/hookwarden/zzlaws_internal_shell_b1.FnScanNonPermutingOperandsAreATail", spec := "fnScanNonPermutingOperandsAreATail", inPlace := ["internal/bytealg.IndexByteString", "internal/bytealg.IndexString"], unfollowed := true, recurses := true, named := ["internal/bytealg.MaxLen"], apart := false }
def FnScanNonPermutingOperandsAreATailSaid : Prop := fnScanNonPermutingOperandsAreATailRow.holds Try.pinned (OpenSpec.ofChange fnScanNonPermutingOperandsAreATailSpec)

/-- ITS FALSE NEIGHBOUR: 'it returns false'. Refute it at one input. -/
def fnScanNonPermutingOperandsAreATailWrong : ChangeSpec := { name := "fnScanNonPermutingOperandsAreATail", fn := fun _ => fun
  | [d1, d2, d3, d4, d5, d6, d7, d8] => { results := [.lit (.bool false)], args := [d1, d2, d3, d4, d5, d6, d7, d8] }
  | _ => none }
def FnScanNonPermutingOperandsAreATailWrongFalsely : Prop := fnScanNonPermutingOperandsAreATailRow.holds Try.pinned (OpenSpec.ofChange fnScanNonPermutingOperandsAreATailWrong)

/-- 'zzlaws_internal_shell_b1.FnScanPermutingExtendsNonPermuting': WHATEVER THE INPUT: true; the input reads as it did. -/
def fnScanPermutingExtendsNonPermutingSpec : ChangeSpec := { name := "fnScanPermutingExtendsNonPermuting", fn := fun _ => fun
  | [d1, d2, d3, d4, d5, d6, d7, d8] => { results := [.lit (.bool true)], args := [d1, d2, d3, d4, d5, d6, d7, d8] }
  | _ => none }
def fnScanPermutingExtendsNonPermutingRow : OpenClaim := { program := "qxb6000411a", sum := "6f78a2f1772684acaccc16714f00eb519ce0fd28ae7818aed71c83e4ebe3249a", func := "example.com/hookwarden/hookwarden/zzlaws_internal_shell_b1.FnScanPermutingExtendsNonPermuting", spec := "fnScanPermutingExtendsNonPermuting", inPlace := ["internal/bytealg.IndexByteString", "internal/bytealg.IndexString"], unfollowed := true, recurses := true, named := ["internal/bytealg.MaxLen"], apart := false }
def FnScanPermutingExtendsNonPermutingSaid : Prop := fnScanPermutingExtendsNonPermutingRow.holds Try.pinned (OpenSpec.ofChange fnScanPermutingExtendsNonPermutingSpec)

/-- ITS FALSE NEIGHBOUR: 'it returns false'. Refute it at one input. -/
def fnScanPermutingExtendsNonPermutingWrong : ChangeSpec := { name := "fnScanPermutingExtendsNonPermuting", fn := fun _ => fun
  | [d1, d2, d3, d4, d5, d6, d7, d8] => { results := [.lit (.bool false)], args := [d1, d2, d3, d4, d5, d6, d7, d8] }
  | _ => none }
def FnScanPermutingExtendsNonPermutingWrongFalsely : Prop := fnScanPermutingExtendsNonPermutingRow.holds Try.pinned (OpenSpec.ofChange fnScanPermutingExtendsNonPermutingWrong)

/-- 'zzlaws_internal_shell_b1.FnStringSetIndexIsLeastContained': WHATEVER THE INPUT: true; the input reads as it did. -/
def fnStringSetIndexIsLeastContainedSpec : ChangeSpec := { name := "fnStringSetIndexIsLeastContained", fn := fun _ => fun
  | [d1, d2] => { results := [.lit (.bool true)], args := [d1, d2] }
  | _ => none }
def fnStringSetIndexIsLeastContainedRow : OpenClaim := { program := "qxb6000411a", sum := "6f78a2f1772684acaccc16714f00eb519ce0fd28ae7818aed71c83e4ebe3249a", func := "example.com/hookwarden/hookwarden/zzlaws_internal_shell_b1.FnStringSetIndexIsLeastContained", spec := "fnStringSetIndexIsLeastContained", apart := false }
def FnStringSetIndexIsLeastContainedSaid : Prop := fnStringSetIndexIsLeastContainedRow.holds Try.pinned (OpenSpec.ofChange fnStringSetIndexIsLeastContainedSpec)

/-- ITS FALSE NEIGHBOUR: 'it returns false'. Refute it at one input. -/
def fnStringSetIndexIsLeastContainedWrong : ChangeSpec := { name := "fnStringSetIndexIsLeastContained", fn := fun _ => fun
  | [d1, d2] => { results := [.lit (.bool false)], args := [d1, d2] }
  | _ => none }
def FnStringSetIndexIsLeastContainedWrongFalsely : Prop := fnStringSetIndexIsLeastContainedRow.holds Try.pinned (OpenSpec.ofChange fnStringSetIndexIsLeastContainedWrong)

/-- 'zzlaws_internal_shell_b1.FnStringSetWidenIsLongestPrefix': WHATEVER THE INPUT: true; the input reads as it did. -/
def fnStringSetWidenIsLongestPrefixSpec : ChangeSpec := { name := "fnStringSetWidenIsLongestPrefix", fn := fun _ => fun
  | [d1, d2] => { results := [.lit (.bool true)], args := [d1, d2] }
  | _ => none }
def fnStringSetWidenIsLongestPrefixRow : OpenClaim := { program := "qxb6000411a", sum := "6f78a2f1772684acaccc16714f00eb519ce0fd28ae7818aed71c83e4ebe3249a", func := "example.com/hookwarden/hookwarden/zzlaws_internal_shell_b1.FnStringSetWidenIsLongestPrefix", spec := "fnStringSetWidenIsLongestPrefix", apart := false }
def FnStringSetWidenIsLongestPrefixSaid : Prop := fnStringSetWidenIsLongestPrefixRow.holds Try.pinned (OpenSpec.ofChange fnStringSetWidenIsLongestPrefixSpec)

/-- ITS FALSE NEIGHBOUR: 'it returns false'. Refute it at one input. -/
def fnStringSetWidenIsLongestPrefixWrong : ChangeSpec := { name := "fnStringSetWidenIsLongestPrefix", fn := fun _ => fun
  | [d1, d2] => { results := [.lit (.bool false)], args := [d1, d2] }
  | _ => none }
def FnStringSetWidenIsLongestPrefixWrongFalsely : Prop := fnStringSetWidenIsLongestPrefixRow.holds Try.pinned (OpenSpec.ofChange fnStringSetWidenIsLongestPrefixWrong)

/-- 'zzlaws_internal_shell_b1.FnStringSetIndexStableUnderAppend': WHATEVER THE INPUT: true; the input reads as it did. -/
def fnStringSetIndexStableUnderAppendSpec : ChangeSpec := { name := "fnStringSetIndexStableUnderAppend", fn := fun _ => fun
  | [d1, d2, d3] => { results := [.lit (.bool true)], args := [d1, d2, d3] }
  | _ => none }
def fnStringSetIndexStableUnderAppendRow : OpenClaim := { program := "qxb6000411a", sum := "6f78a2f1772684acaccc16714f00eb519ce0fd28ae7818aed71c83e4ebe3249a", func := "example.com/hookwarden/hookwarden/zzlaws_internal_shell_b1.FnStringSetIndexStableUnderAppend", spec := "fnStringSetIndexStableUnderAppend", apart := false }
def FnStringSetIndexStableUnderAppendSaid : Prop := fnStringSetIndexStableUnderAppendRow.holds Try.pinned (OpenSpec.ofChange fnStringSetIndexStableUnderAppendSpec)

/-- ITS FALSE NEIGHBOUR: 'it returns false'. Refute it at one input. -/
def fnStringSetIndexStableUnderAppendWrong : ChangeSpec := { name := "fnStringSetIndexStableUnderAppend", fn := fun _ => fun
  | [d1, d2, d3] => { results := [.lit (.bool false)], args := [d1, d2, d3] }
  | _ => none }
def FnStringSetIndexStableUnderAppendWrongFalsely : Prop := fnStringSetIndexStableUnderAppendRow.holds Try.pinned (OpenSpec.ofChange fnStringSetIndexStableUnderAppendWrong)

/-- 'zzlaws_internal_shell_b1.FnSplitPiecesRebuildText': WHATEVER THE INPUT: true; the input reads as it did. -/
def fnSplitPiecesRebuildTextSpec : ChangeSpec := { name := "fnSplitPiecesRebuildText", fn := fun _ => fun
  | [d1, d2] => { results := [.lit (.bool true)], args := [d1, d2] }
  | _ => none }
def fnSplitPiecesRebuildTextRow : OpenClaim := { program := "qxb6000411a", sum := "6f78a2f1772684acaccc16714f00eb519ce0fd28ae7818aed71c83e4ebe3249a", func := "example.com/hookwarden/hookwarden/zzlaws_internal_shell_b1.FnSplitPiecesRebuildText", spec := "fnSplitPiecesRebuildText", apart := false }
def FnSplitPiecesRebuildTextSaid : Prop := fnSplitPiecesRebuildTextRow.holds Try.pinned (OpenSpec.ofChange fnSplitPiecesRebuildTextSpec)

/-- ITS FALSE NEIGHBOUR: 'it returns false'. Refute it at one input. -/
def fnSplitPiecesRebuildTextWrong : ChangeSpec := { name := "fnSplitPiecesRebuildText", fn := fun _ => fun
  | [d1, d2] => { results := [.lit (.bool false)], args := [d1, d2] }
  | _ => none }
def FnSplitPiecesRebuildTextWrongFalsely : Prop := fnSplitPiecesRebuildTextRow.holds Try.pinned (OpenSpec.ofChange fnSplitPiecesRebuildTextWrong)

/-- 'zzlaws_internal_shell_b1.FnSplitIsLeftmostLongest': WHATEVER THE INPUT: true; the input reads as it did. -/
def fnSplitIsLeftmostLongestSpec : ChangeSpec := { name := "fnSplitIsLeftmostLongest", fn := fun _ => fun
  | [d1, d2] => { results := [.lit (.bool true)], args := [d1, d2] }
  | _ => none }
def fnSplitIsLeftmostLongestRow : OpenClaim := { program := "qxb6000411a", sum := "6f78a2f1772684acaccc16714f00eb519ce0fd28ae7818aed71c83e4ebe3249a", func := "example.com/hookwarden/hookwarden/zzlaws_internal_shell_b1.FnSplitIsLeftmostLongest", spec := "fnSplitIsLeftmostLongest", apart := false }
def FnSplitIsLeftmostLongestSaid : Prop := fnSplitIsLeftmostLongestRow.holds Try.pinned (OpenSpec.ofChange fnSplitIsLeftmostLongestSpec)

/-- ITS FALSE NEIGHBOUR: 'it returns false'. Refute it at one input. -/
def fnSplitIsLeftmostLongestWrong : ChangeSpec := { name := "fnSplitIsLeftmostLongest", fn := fun _ => fun
  | [d1, d2] => { results := [.lit (.bool false)], args := [d1, d2] }
  | _ => none }
def FnSplitIsLeftmostLongestWrongFalsely : Prop := fnSplitIsLeftmostLongestRow.holds Try.pinned (OpenSpec.ofChange fnSplitIsLeftmostLongestWrong)

/-- 'zzlaws_internal_shell_b1.FnSplitPiecesSplitNoFurther': WHATEVER THE INPUT: true; the input reads as it did. -/
def fnSplitPiecesSplitNoFurtherSpec : ChangeSpec := { name := "fnSplitPiecesSplitNoFurther", fn := fun _ => fun
  | [d1, d2] => { results := [.lit (.bool true)], args := [d1, d2] }
  | _ => none }
def fnSplitPiecesSplitNoFurtherRow : OpenClaim := { program := "qxb6000411a", sum := "6f78a2f1772684acaccc16714f00eb519ce0fd28ae7818aed71c83e4ebe3249a", func := "example.com/hookwarden/hookwarden/zzlaws_internal_shell_b1.FnSplitPiecesSplitNoFurther", spec := "fnSplitPiecesSplitNoFurther", apart := false }
def FnSplitPiecesSplitNoFurtherSaid : Prop := fnSplitPiecesSplitNoFurtherRow.holds Try.pinned (OpenSpec.ofChange fnSplitPiecesSplitNoFurtherSpec)

/-- ITS FALSE NEIGHBOUR: 'it returns false'. Refute it at one input. -/
def fnSplitPiecesSplitNoFurtherWrong : ChangeSpec := { name := "fnSplitPiecesSplitNoFurther", fn := fun _ => fun
  | [d1, d2] => { results := [.lit (.bool false)], args := [d1, d2] }
  | _ => none }
def FnSplitPiecesSplitNoFurtherWrongFalsely : Prop := fnSplitPiecesSplitNoFurtherRow.holds Try.pinned (OpenSpec.ofChange fnSplitPiecesSplitNoFurtherWrong)

end Rows
end Go.Proofs.Qxb6000411a
