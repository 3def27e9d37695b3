/-
  No cell of these rows narrows 'for every input' (looked for: loops, veiled, ifaces, maps, wideKeys, modest, calm, conditions, laid).
  DERIVED. THE GIVEN ROWS OF THIS SEAT. 4 by the template 'for every input the law returns true; each argument reads behind the call as it read before'; 0 by the template 'total and deterministic' (their statements: Qxb6604284aTotals.lean).
  GIVEN WITH THE SEED: the statements are not yours to turn. If you find one false, say at which input.
  Laid BY PROGRAM, IN A SANDBOX (cutbox-rows.mjs): the forced cells as the released guide's own fill.sh prints them over the translation 116f78351e897d71… (all of the seat's roots in one cut). By AI agents, Wed Nov 11 2026. No macro, syntax, notation, axiom, sorry.
-/
import Derived.Test.Qxb6604284aChecked
import GoSem.Claim
import GoSem.ClaimJoined
import GoSem.ClaimMapViews
import Derived.JoinedTies
import Derived.KernelRfl
namespace Go.Proofs.Qxb6604284a
/- THE CELL 'sum', in the pinned program and in every row, IS THE sha256 OF THE DUMP (.gsa) THAT Qxb6604284aProg.lean LOADS. Nothing in Lean hashes anything: it is a label: what it is worth is what the hold of that sum in a sandbox is worth. -/
noncomputable def Try.pinned : Pinned := { name := "qxb6604284a", sum := "116f78351e897d7164b18bc0629c708ad8c8e5cd8dfb0908bcb677fa73ecca6a", checked := Try.checked }
namespace Rows
def none {H : Type} : Left H := { results := [], args := [] }

/-- 'zzlaws_root_b1.FnRedactedMatchesMaskModel': WHATEVER THE INPUT: true; the input reads as it did. -/
def fnRedactedMatchesMaskModelSpec : ChangeSpec := { name := "fnRedactedMatchesMaskModel", fn := fun _ => fun
  | [d1, d2] => { results := [.lit (.bool true)], args := [d1, d2] }
  | _ => none }
def fnRedactedMatchesMaskModelRow : OpenClaim := { program := "qxb6604284a", sum := "116f78351e897d7164b18bc0629c708ad8c8e5cd8dfb0908bcb677fa73ecca6a", func := "respire.example/respire/zzlaws_root_b1.FnRedactedMatchesMaskModel", spec := "fnRedactedMatchesMaskModel", inPlace := ["internal/abi.NoEscape", "internal/bytealg.MakeNoZero"], apart := false }
def FnRedactedMatchesMaskModelSaid : Prop := fnRedactedMatchesMaskModelRow.holds Try.pinned (OpenSpec.ofChange fnRedactedMatchesMaskModelSpec)

/-- ITS FALSE NEIGHBOUR: 'it returns false'. Refute it at one input. -/
def fnRedactedMatchesMaskModelWrong : ChangeSpec := { name := "fnRedactedMatchesMaskModel", fn := fun _ => fun
  | [d1, d2] => { results := [.lit (.bool false)], args := [d1, d2] }
  | _ => none }
def FnRedactedMatchesMaskModelWrongFalsely : Prop := fnRedactedMatchesMaskModelRow.holds Try.pinned (OpenSpec.ofChange fnRedactedMatchesMaskModelWrong)

/-- 'zzlaws_root_b1.FnRedactedLeavesNoStretch': WHATEVER THE INPUT: true; the input reads as it did. -/
def fnRedactedLeavesNoStretchSpec : ChangeSpec := { name := "fnRedactedLeavesNoStretch", fn := fun _ => fun
  | [d1, d2] => { results := [.lit (.bool true)], args := [d1, d2] }
  | _ => none }
def fnRedactedLeavesNoStretchRow : OpenClaim := { program := "qxb6604284a", sum := "116f78351e897d7164b18bc0629c708ad8c8e5cd8dfb0908bcb677fa73ecca6a", func := "respire.example/respire/zzlaws_root_b1.FnRedactedLeavesNoStretch", spec := "fnRedactedLeavesNoStretch", inPlace := ["internal/abi.NoEscape", "internal/bytealg.MakeNoZero"], apart := false }
def FnRedactedLeavesNoStretchSaid : Prop := fnRedactedLeavesNoStretchRow.holds Try.pinned (OpenSpec.ofChange fnRedactedLeavesNoStretchSpec)

/-- ITS FALSE NEIGHBOUR: 'it returns false'. Refute it at one input. -/
def fnRedactedLeavesNoStretchWrong : ChangeSpec := { name := "fnRedactedLeavesNoStretch", fn := fun _ => fun
  | [d1, d2] => { results := [.lit (.bool false)], args := [d1, d2] }
  | _ => none }
def FnRedactedLeavesNoStretchWrongFalsely : Prop := fnRedactedLeavesNoStretchRow.holds Try.pinned (OpenSpec.ofChange fnRedactedLeavesNoStretchWrong)

/-- 'zzlaws_root_b1.FnParseIntMatchesDecimalModel': WHATEVER THE INPUT: true; the input reads as it did. -/
def fnParseIntMatchesDecimalModelSpec : ChangeSpec := { name := "fnParseIntMatchesDecimalModel", fn := fun _ => fun
  | [d] => { results := [.lit (.bool true)], args := [d] }
  | _ => none }
def fnParseIntMatchesDecimalModelRow : OpenClaim := { program := "qxb6604284a", sum := "116f78351e897d7164b18bc0629c708ad8c8e5cd8dfb0908bcb677fa73ecca6a", func := "respire.example/respire/zzlaws_root_b1.FnParseIntMatchesDecimalModel", spec := "fnParseIntMatchesDecimalModel", apart := false }
def FnParseIntMatchesDecimalModelSaid : Prop := fnParseIntMatchesDecimalModelRow.holds Try.pinned (OpenSpec.ofChange fnParseIntMatchesDecimalModelSpec)

/-- ITS FALSE NEIGHBOUR: 'it returns false'. Refute it at one input. -/
def fnParseIntMatchesDecimalModelWrong : ChangeSpec := { name := "fnParseIntMatchesDecimalModel", fn := fun _ => fun
  | [d] => { results := [.lit (.bool false)], args := [d] }
  | _ => none }
def FnParseIntMatchesDecimalModelWrongFalsely : Prop := fnParseIntMatchesDecimalModelRow.holds Try.pinned (OpenSpec.ofChange fnParseIntMatchesDecimalModelWrong)

/-- 'zzlaws_root_b1.FnParseIntReadsItsDecimalText': WHATEVER THE INPUT: true; the input reads as it did. -/
def fnParseIntReadsItsDecimalTextSpec : ChangeSpec := { name := "fnParseIntReadsItsDecimalText", fn := fun _ => fun
  | [d] => { results := [.lit (.bool true)], args := [d] }
  | _ => none }
def fnParseIntReadsItsDecimalTextRow : OpenClaim := { program := "qxb6604284a", sum := "116f78351e897d7164b18bc0629c708ad8c8e5cd8dfb0908bcb677fa73ecca6a", func := "respire.example/respire/zzlaws_root_b1.FnParseIntReadsItsDecimalText", spec := "fnParseIntReadsItsDecimalText", apart := false }
def FnParseIntReadsItsDecimalTextSaid : Prop := fnParseIntReadsItsDecimalTextRow.holds Try.pinned (OpenSpec.ofChange fnParseIntReadsItsDecimalTextSpec)

/-- ITS FALSE NEIGHBOUR: 'it returns false'. Refute it at one input. -/
def fnParseIntReadsItsDecimalTextWrong : ChangeSpec := { name := "fnParseIntReadsItsDecimalText", fn := fun _ => fun
  | [d] => { results := [.lit (.bool false)], args := [d] }
  | _ => none }
def FnParseIntReadsItsDecimalTextWrongFalsely : Prop := fnParseIntReadsItsDecimalTextRow.holds Try.pinned (OpenSpec.ofChange fnParseIntReadsItsDecimalTextWrong)

end Rows
end Go.Proofs.Qxb6604284a
