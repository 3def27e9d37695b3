/-
  No cell of these rows narrows 'for every input' (looked for: loops, veiled, ifaces, maps, wideKeys, modest, calm, conditions, laid).
  DERIVED. THE GIVEN ROWS OF THIS SEAT. 7 by the template 'for every input the law returns true; each argument reads behind the call as it read before'; 0 by the template 'total and deterministic' (their statements: Qxb6604791aTotals.lean).
  GIVEN WITH THE SEED: the statements are not yours to turn. If you find one false, say at which input.
  Laid BY PROGRAM, IN A SANDBOX (cutbox-rows.mjs): the forced cells as the released guide's own fill.sh prints them over the translation d414e627b5e7ad2a… (all of the seat's roots in one cut). By AI agents, Wed Nov 11 2026. No macro, syntax, notation, axiom, sorry.
-/
import Derived.Test.Qxb6604791aChecked
import GoSem.Claim
import GoSem.ClaimJoined
import GoSem.ClaimMapViews
import Derived.JoinedTies
import Derived.KernelRfl
namespace Go.Proofs.Qxb6604791a
/- THE CELL 'sum', in the pinned program and in every row, IS THE sha256 OF THE DUMP (.gsa) THAT Qxb6604791aProg.lean LOADS. Nothing in Lean hashes anything: it is a label: what it is worth is what the hold of that sum in a sandbox is worth. -/
noncomputable def Try.pinned : Pinned := { name := "qxb6604791a", sum := "d414e627b5e7ad2acc7097c4fb35a4ad6c2e7389bba0cc18d76b2799c2232d9b", checked := Try.checked }
namespace Rows
def none {H : Type} : Left H := { results := [], args := [] }

/-- 'zzlaws_root_b1.FnMergeKeysIsSortedMerge': WHATEVER THE INPUT: true; the input reads as it did. -/
def fnMergeKeysIsSortedMergeSpec : ChangeSpec := { name := "fnMergeKeysIsSortedMerge", fn := fun _ => fun
  | [d1, d2] => { results := [.lit (.bool true)], args := [d1, d2] }
  | _ => none }
def fnMergeKeysIsSortedMergeRow : OpenClaim := { program := "qxb6604791a", sum := "d414e627b5e7ad2acc7097c4fb35a4ad6c2e7389bba0cc18d76b2799c2232d9b", func := "example.com/zhaomu/zhaomu/zzlaws_root_b1.FnMergeKeysIsSortedMerge", spec := "fnMergeKeysIsSortedMerge", inPlace := ["internal/bytealg.abigen_runtime_cmpstring"], apart := false }
def FnMergeKeysIsSortedMergeSaid : Prop := fnMergeKeysIsSortedMergeRow.holds Try.pinned (OpenSpec.ofChange fnMergeKeysIsSortedMergeSpec)

/-- ITS FALSE NEIGHBOUR: 'it returns false'. Refute it at one input. -/
def fnMergeKeysIsSortedMergeWrong : ChangeSpec := { name := "fnMergeKeysIsSortedMerge", fn := fun _ => fun
  | [d1, d2] => { results := [.lit (.bool false)], args := [d1, d2] }
  | _ => none }
def FnMergeKeysIsSortedMergeWrongFalsely : Prop := fnMergeKeysIsSortedMergeRow.holds Try.pinned (OpenSpec.ofChange fnMergeKeysIsSortedMergeWrong)

/-- 'zzlaws_root_b1.FnMergeKeysInterleaves': WHATEVER THE INPUT: true; the input reads as it did. -/
def fnMergeKeysInterleavesSpec : ChangeSpec := { name := "fnMergeKeysInterleaves", fn := fun _ => fun
  | [d1, d2] => { results := [.lit (.bool true)], args := [d1, d2] }
  | _ => none }
def fnMergeKeysInterleavesRow : OpenClaim := { program := "qxb6604791a", sum := "d414e627b5e7ad2acc7097c4fb35a4ad6c2e7389bba0cc18d76b2799c2232d9b", func := "example.com/zhaomu/zhaomu/zzlaws_root_b1.FnMergeKeysInterleaves", spec := "fnMergeKeysInterleaves", inPlace := ["internal/bytealg.abigen_runtime_cmpstring"], apart := false }
def FnMergeKeysInterleavesSaid : Prop := fnMergeKeysInterleavesRow.holds Try.pinned (OpenSpec.ofChange fnMergeKeysInterleavesSpec)

/-- ITS FALSE NEIGHBOUR: 'it returns false'. Refute it at one input. -/
def fnMergeKeysInterleavesWrong : ChangeSpec := { name := "fnMergeKeysInterleaves", fn := fun _ => fun
  | [d1, d2] => { results := [.lit (.bool false)], args := [d1, d2] }
  | _ => none }
def FnMergeKeysInterleavesWrongFalsely : Prop := fnMergeKeysInterleavesRow.holds Try.pinned (OpenSpec.ofChange fnMergeKeysInterleavesWrong)

/-- 'zzlaws_root_b1.FnMergeKeysCommutes': WHATEVER THE INPUT: true; the input reads as it did. -/
def fnMergeKeysCommutesSpec : ChangeSpec := { name := "fnMergeKeysCommutes", fn := fun _ => fun
  | [d1, d2] => { results := [.lit (.bool true)], args := [d1, d2] }
  | _ => none }
def fnMergeKeysCommutesRow : OpenClaim := { program := "qxb6604791a", sum := "d414e627b5e7ad2acc7097c4fb35a4ad6c2e7389bba0cc18d76b2799c2232d9b", func := "example.com/zhaomu/zhaomu/zzlaws_root_b1.FnMergeKeysCommutes", spec := "fnMergeKeysCommutes", inPlace := ["internal/bytealg.abigen_runtime_cmpstring"], apart := false }
def FnMergeKeysCommutesSaid : Prop := fnMergeKeysCommutesRow.holds Try.pinned (OpenSpec.ofChange fnMergeKeysCommutesSpec)

/-- ITS FALSE NEIGHBOUR: 'it returns false'. Refute it at one input. -/
def fnMergeKeysCommutesWrong : ChangeSpec := { name := "fnMergeKeysCommutes", fn := fun _ => fun
  | [d1, d2] => { results := [.lit (.bool false)], args := [d1, d2] }
  | _ => none }
def FnMergeKeysCommutesWrongFalsely : Prop := fnMergeKeysCommutesRow.holds Try.pinned (OpenSpec.ofChange fnMergeKeysCommutesWrong)

/-- 'zzlaws_root_b1.FnCompareMatchesEncodedOrder': WHATEVER THE INPUT: true; the input reads as it did. -/
def fnCompareMatchesEncodedOrderSpec : ChangeSpec := { name := "fnCompareMatchesEncodedOrder", fn := fun _ => fun
  | [d1, d2, d3, d4, d5, d6, d7, d8] => { results := [.lit (.bool true)], args := [d1, d2, d3, d4, d5, d6, d7, d8] }
  | _ => none }
def fnCompareMatchesEncodedOrderRow : OpenClaim := { program := "qxb6604791a", sum := "d414e627b5e7ad2acc7097c4fb35a4ad6c2e7389bba0cc18d76b2799c2232d9b", func := "example.com/zhaomu/zhaomu/zzlaws_root_b1.FnCompareMatchesEncodedOrder", spec := "fnCompareMatchesEncodedOrder", inPlace := ["internal/bytealg.abigen_runtime_cmpstring"], apart := false }
def FnCompareMatchesEncodedOrderSaid : Prop := fnCompareMatchesEncodedOrderRow.holds Try.pinned (OpenSpec.ofChange fnCompareMatchesEncodedOrderSpec)

/-- ITS FALSE NEIGHBOUR: 'it returns false'. Refute it at one input. -/
def fnCompareMatchesEncodedOrderWrong : ChangeSpec := { name := "fnCompareMatchesEncodedOrder", fn := fun _ => fun
  | [d1, d2, d3, d4, d5, d6, d7, d8] => { results := [.lit (.bool false)], args := [d1, d2, d3, d4, d5, d6, d7, d8] }
  | _ => none }
def FnCompareMatchesEncodedOrderWrongFalsely : Prop := fnCompareMatchesEncodedOrderRow.holds Try.pinned (OpenSpec.ofChange fnCompareMatchesEncodedOrderWrong)

/-- 'zzlaws_root_b1.FnCompareAntisymmetric': WHATEVER THE INPUT: true; the input reads as it did. -/
def fnCompareAntisymmetricSpec : ChangeSpec := { name := "fnCompareAntisymmetric", fn := fun _ => fun
  | [d1, d2, d3, d4, d5, d6, d7, d8] => { results := [.lit (.bool true)], args := [d1, d2, d3, d4, d5, d6, d7, d8] }
  | _ => none }
def fnCompareAntisymmetricRow : OpenClaim := { program := "qxb6604791a", sum := "d414e627b5e7ad2acc7097c4fb35a4ad6c2e7389bba0cc18d76b2799c2232d9b", func := "example.com/zhaomu/zhaomu/zzlaws_root_b1.FnCompareAntisymmetric", spec := "fnCompareAntisymmetric", inPlace := ["internal/bytealg.abigen_runtime_cmpstring"], apart := false }
def FnCompareAntisymmetricSaid : Prop := fnCompareAntisymmetricRow.holds Try.pinned (OpenSpec.ofChange fnCompareAntisymmetricSpec)

/-- ITS FALSE NEIGHBOUR: 'it returns false'. Refute it at one input. -/
def fnCompareAntisymmetricWrong : ChangeSpec := { name := "fnCompareAntisymmetric", fn := fun _ => fun
  | [d1, d2, d3, d4, d5, d6, d7, d8] => { results := [.lit (.bool false)], args := [d1, d2, d3, d4, d5, d6, d7, d8] }
  | _ => none }
def FnCompareAntisymmetricWrongFalsely : Prop := fnCompareAntisymmetricRow.holds Try.pinned (OpenSpec.ofChange fnCompareAntisymmetricWrong)

/-- 'zzlaws_root_b1.FnCompareTransitive': WHATEVER THE INPUT: true; the input reads as it did. -/
def fnCompareTransitiveSpec : ChangeSpec := { name := "fnCompareTransitive", fn := fun _ => fun
  | [d1, d2, d3, d4, d5, d6, d7, d8, d9, d10, d11, d12] => { results := [.lit (.bool true)], args := [d1, d2, d3, d4, d5, d6, d7, d8, d9, d10, d11, d12] }
  | _ => none }
def fnCompareTransitiveRow : OpenClaim := { program := "qxb6604791a", sum := "d414e627b5e7ad2acc7097c4fb35a4ad6c2e7389bba0cc18d76b2799c2232d9b", func := "example.com/zhaomu/zhaomu/zzlaws_root_b1.FnCompareTransitive", spec := "fnCompareTransitive", inPlace := ["internal/bytealg.abigen_runtime_cmpstring"], apart := false }
def FnCompareTransitiveSaid : Prop := fnCompareTransitiveRow.holds Try.pinned (OpenSpec.ofChange fnCompareTransitiveSpec)

/-- ITS FALSE NEIGHBOUR: 'it returns false'. Refute it at one input. -/
def fnCompareTransitiveWrong : ChangeSpec := { name := "fnCompareTransitive", fn := fun _ => fun
  | [d1, d2, d3, d4, d5, d6, d7, d8, d9, d10, d11, d12] => { results := [.lit (.bool false)], args := [d1, d2, d3, d4, d5, d6, d7, d8, d9, d10, d11, d12] }
  | _ => none }
def FnCompareTransitiveWrongFalsely : Prop := fnCompareTransitiveRow.holds Try.pinned (OpenSpec.ofChange fnCompareTransitiveWrong)

/-- 'zzlaws_root_b1.FnAllDigitsConcat': WHATEVER THE INPUT: true; the input reads as it did. -/
def fnAllDigitsConcatSpec : ChangeSpec := { name := "fnAllDigitsConcat", fn := fun _ => fun
  | [d1, d2] => { results := [.lit (.bool true)], args := [d1, d2] }
  | _ => none }
def fnAllDigitsConcatRow : OpenClaim := { program := "qxb6604791a", sum := "d414e627b5e7ad2acc7097c4fb35a4ad6c2e7389bba0cc18d76b2799c2232d9b", func := "example.com/zhaomu/zhaomu/zzlaws_root_b1.FnAllDigitsConcat", spec := "fnAllDigitsConcat", apart := false }
def FnAllDigitsConcatSaid : Prop := fnAllDigitsConcatRow.holds Try.pinned (OpenSpec.ofChange fnAllDigitsConcatSpec)

/-- ITS FALSE NEIGHBOUR: 'it returns false'. Refute it at one input. -/
def fnAllDigitsConcatWrong : ChangeSpec := { name := "fnAllDigitsConcat", fn := fun _ => fun
  | [d1, d2] => { results := [.lit (.bool false)], args := [d1, d2] }
  | _ => none }
def FnAllDigitsConcatWrongFalsely : Prop := fnAllDigitsConcatRow.holds Try.pinned (OpenSpec.ofChange fnAllDigitsConcatWrong)

end Rows
end Go.Proofs.Qxb6604791a
