/-
  No cell of these rows narrows 'for every input' (looked for: loops, veiled, ifaces, maps, wideKeys, modest, calm, conditions, laid).
  DERIVED. THE GIVEN ROWS OF THIS SEAT. 7 by the template 'for every input the law returns true; each argument reads behind the call as it read before'; 0 by the template 'total and deterministic' (their statements: Qxb6600446aTotals.lean).
  GIVEN WITH THE SEED: the statements are not yours to turn. If you find one false, say at which input.
  Laid BY PROGRAM, IN A SANDBOX (cutbox-rows.mjs): the forced cells as the released guide's own fill.sh prints them over the translation d3db647b74fa57fc… (all of the seat's roots in one cut). By AI agents, Wed Nov 11 2026. No macro, syntax, notation, axiom, sorry.
-/
import Derived.Test.Qxb6600446aChecked
import GoSem.Claim
import GoSem.ClaimJoined
import GoSem.ClaimMapViews
import Derived.JoinedTies
import Derived.KernelRfl
namespace Go.Proofs.Qxb6600446a
/- THE CELL 'sum', in the pinned program and in every row, IS THE sha256 OF THE DUMP (.gsa) THAT Qxb6600446aProg.lean LOADS. Nothing in Lean hashes anything: it is a label: what it is worth is what the hold of that sum in a sandbox is worth. -/
noncomputable def Try.pinned : Pinned := { name := "qxb6600446a", sum := "d3db647b74fa57fc7c57f90d82e485a041931d31e18a6c1e287de5bf81018942", checked := Try.checked }
namespace Rows
def none {H : Type} : Left H := { results := [], args := [] }

/-- 'zzlaws_internal_btree_b1.FnSplitAtHalfwayWhenRecordsAreSmall': WHATEVER THE INPUT: true; the input reads as it did. -/
def fnSplitAtHalfwayWhenRecordsAreSmallSpec : ChangeSpec := { name := "fnSplitAtHalfwayWhenRecordsAreSmall", fn := fun _ => fun
  | [d1, d2] => { results := [.lit (.bool true)], args := [d1, d2] }
  | _ => none }
def fnSplitAtHalfwayWhenRecordsAreSmallRow : OpenClaim := { program := "qxb6600446a", sum := "d3db647b74fa57fc7c57f90d82e485a041931d31e18a6c1e287de5bf81018942", func := "example.com/undolane/undolane/zzlaws_internal_btree_b1.FnSplitAtHalfwayWhenRecordsAreSmall", spec := "fnSplitAtHalfwayWhenRecordsAreSmall", unfollowed := true, recurses := true, apart := false }
def FnSplitAtHalfwayWhenRecordsAreSmallSaid : Prop := fnSplitAtHalfwayWhenRecordsAreSmallRow.holds Try.pinned (OpenSpec.ofChange fnSplitAtHalfwayWhenRecordsAreSmallSpec)

/-- ITS FALSE NEIGHBOUR: 'it returns false'. Refute it at one input. -/
def fnSplitAtHalfwayWhenRecordsAreSmallWrong : ChangeSpec := { name := "fnSplitAtHalfwayWhenRecordsAreSmall", fn := fun _ => fun
  | [d1, d2] => { results := [.lit (.bool false)], args := [d1, d2] }
  | _ => none }
def FnSplitAtHalfwayWhenRecordsAreSmallWrongFalsely : Prop := fnSplitAtHalfwayWhenRecordsAreSmallRow.holds Try.pinned (OpenSpec.ofChange fnSplitAtHalfwayWhenRecordsAreSmallWrong)

/-- 'zzlaws_internal_btree_b1.FnSplitAtFitsWheneverSomeSplitFits': WHATEVER THE INPUT: true; the input reads as it did. -/
def fnSplitAtFitsWheneverSomeSplitFitsSpec : ChangeSpec := { name := "fnSplitAtFitsWheneverSomeSplitFits", fn := fun _ => fun
  | [d1, d2, d3] => { results := [.lit (.bool true)], args := [d1, d2, d3] }
  | _ => none }
def fnSplitAtFitsWheneverSomeSplitFitsRow : OpenClaim := { program := "qxb6600446a", sum := "d3db647b74fa57fc7c57f90d82e485a041931d31e18a6c1e287de5bf81018942", func := "example.com/undolane/undolane/zzlaws_internal_btree_b1.FnSplitAtFitsWheneverSomeSplitFits", spec := "fnSplitAtFitsWheneverSomeSplitFits", unfollowed := true, recurses := true, apart := false }
def FnSplitAtFitsWheneverSomeSplitFitsSaid : Prop := fnSplitAtFitsWheneverSomeSplitFitsRow.holds Try.pinned (OpenSpec.ofChange fnSplitAtFitsWheneverSomeSplitFitsSpec)

/-- ITS FALSE NEIGHBOUR: 'it returns false'. Refute it at one input. -/
def fnSplitAtFitsWheneverSomeSplitFitsWrong : ChangeSpec := { name := "fnSplitAtFitsWheneverSomeSplitFits", fn := fun _ => fun
  | [d1, d2, d3] => { results := [.lit (.bool false)], args := [d1, d2, d3] }
  | _ => none }
def FnSplitAtFitsWheneverSomeSplitFitsWrongFalsely : Prop := fnSplitAtFitsWheneverSomeSplitFitsRow.holds Try.pinned (OpenSpec.ofChange fnSplitAtFitsWheneverSomeSplitFitsWrong)

/-- 'zzlaws_internal_btree_b1.FnSplitAtAnswerLeavesRecordsOnBothSides': WHATEVER THE INPUT: true; the input reads as it did. -/
def fnSplitAtAnswerLeavesRecordsOnBothSidesSpec : ChangeSpec := { name := "fnSplitAtAnswerLeavesRecordsOnBothSides", fn := fun _ => fun
  | [d1, d2, d3] => { results := [.lit (.bool true)], args := [d1, d2, d3] }
  | _ => none }
def fnSplitAtAnswerLeavesRecordsOnBothSidesRow : OpenClaim := { program := "qxb6600446a", sum := "d3db647b74fa57fc7c57f90d82e485a041931d31e18a6c1e287de5bf81018942", func := "example.com/undolane/undolane/zzlaws_internal_btree_b1.FnSplitAtAnswerLeavesRecordsOnBothSides", spec := "fnSplitAtAnswerLeavesRecordsOnBothSides", unfollowed := true, recurses := true, apart := false }
def FnSplitAtAnswerLeavesRecordsOnBothSidesSaid : Prop := fnSplitAtAnswerLeavesRecordsOnBothSidesRow.holds Try.pinned (OpenSpec.ofChange fnSplitAtAnswerLeavesRecordsOnBothSidesSpec)

/-- ITS FALSE NEIGHBOUR: 'it returns false'. Refute it at one input. -/
def fnSplitAtAnswerLeavesRecordsOnBothSidesWrong : ChangeSpec := { name := "fnSplitAtAnswerLeavesRecordsOnBothSides", fn := fun _ => fun
  | [d1, d2, d3] => { results := [.lit (.bool false)], args := [d1, d2, d3] }
  | _ => none }
def FnSplitAtAnswerLeavesRecordsOnBothSidesWrongFalsely : Prop := fnSplitAtAnswerLeavesRecordsOnBothSidesRow.holds Try.pinned (OpenSpec.ofChange fnSplitAtAnswerLeavesRecordsOnBothSidesWrong)

/-- 'zzlaws_internal_btree_b1.FnPageSetAddScriptAgainstList': WHATEVER THE INPUT: true; the input reads as it did. -/
def fnPageSetAddScriptAgainstListSpec : ChangeSpec := { name := "fnPageSetAddScriptAgainstList", fn := fun _ => fun
  | [d] => { results := [.lit (.bool true)], args := [d] }
  | _ => none }
def fnPageSetAddScriptAgainstListRow : OpenClaim := { program := "qxb6600446a", sum := "d3db647b74fa57fc7c57f90d82e485a041931d31e18a6c1e287de5bf81018942", func := "example.com/undolane/undolane/zzlaws_internal_btree_b1.FnPageSetAddScriptAgainstList", spec := "fnPageSetAddScriptAgainstList", apart := false }
def FnPageSetAddScriptAgainstListSaid : Prop := fnPageSetAddScriptAgainstListRow.holds Try.pinned (OpenSpec.ofChange fnPageSetAddScriptAgainstListSpec)

/-- ITS FALSE NEIGHBOUR: 'it returns false'. Refute it at one input. -/
def fnPageSetAddScriptAgainstListWrong : ChangeSpec := { name := "fnPageSetAddScriptAgainstList", fn := fun _ => fun
  | [d] => { results := [.lit (.bool false)], args := [d] }
  | _ => none }
def FnPageSetAddScriptAgainstListWrongFalsely : Prop := fnPageSetAddScriptAgainstListRow.holds Try.pinned (OpenSpec.ofChange fnPageSetAddScriptAgainstListWrong)

/-- 'zzlaws_internal_btree_b1.FnApartExactlyWhenEachFirstIsClosedBeforeTheNext': WHATEVER THE INPUT: true; the input reads as it did. -/
def fnApartExactlyWhenEachFirstIsClosedBeforeTheNextSpec : ChangeSpec := { name := "fnApartExactlyWhenEachFirstIsClosedBeforeTheNext", fn := fun _ => fun
  | [d1, d2] => { results := [.lit (.bool true)], args := [d1, d2] }
  | _ => none }
def fnApartExactlyWhenEachFirstIsClosedBeforeTheNextRow : OpenClaim := { program := "qxb6600446a", sum := "d3db647b74fa57fc7c57f90d82e485a041931d31e18a6c1e287de5bf81018942", func := "example.com/undolane/undolane/zzlaws_internal_btree_b1.FnApartExactlyWhenEachFirstIsClosedBeforeTheNext", spec := "fnApartExactlyWhenEachFirstIsClosedBeforeTheNext", apart := false }
def FnApartExactlyWhenEachFirstIsClosedBeforeTheNextSaid : Prop := fnApartExactlyWhenEachFirstIsClosedBeforeTheNextRow.holds Try.pinned (OpenSpec.ofChange fnApartExactlyWhenEachFirstIsClosedBeforeTheNextSpec)

/-- ITS FALSE NEIGHBOUR: 'it returns false'. Refute it at one input. -/
def fnApartExactlyWhenEachFirstIsClosedBeforeTheNextWrong : ChangeSpec := { name := "fnApartExactlyWhenEachFirstIsClosedBeforeTheNext", fn := fun _ => fun
  | [d1, d2] => { results := [.lit (.bool false)], args := [d1, d2] }
  | _ => none }
def FnApartExactlyWhenEachFirstIsClosedBeforeTheNextWrongFalsely : Prop := fnApartExactlyWhenEachFirstIsClosedBeforeTheNextRow.holds Try.pinned (OpenSpec.ofChange fnApartExactlyWhenEachFirstIsClosedBeforeTheNextWrong)

/-- 'zzlaws_internal_btree_b1.FnApartKeepsWithMoreLastsOrFewerFirsts': WHATEVER THE INPUT: true; the input reads as it did. -/
def fnApartKeepsWithMoreLastsOrFewerFirstsSpec : ChangeSpec := { name := "fnApartKeepsWithMoreLastsOrFewerFirsts", fn := fun _ => fun
  | [d1, d2, d3, d4] => { results := [.lit (.bool true)], args := [d1, d2, d3, d4] }
  | _ => none }
def fnApartKeepsWithMoreLastsOrFewerFirstsRow : OpenClaim := { program := "qxb6600446a", sum := "d3db647b74fa57fc7c57f90d82e485a041931d31e18a6c1e287de5bf81018942", func := "example.com/undolane/undolane/zzlaws_internal_btree_b1.FnApartKeepsWithMoreLastsOrFewerFirsts", spec := "fnApartKeepsWithMoreLastsOrFewerFirsts", apart := false }
def FnApartKeepsWithMoreLastsOrFewerFirstsSaid : Prop := fnApartKeepsWithMoreLastsOrFewerFirstsRow.holds Try.pinned (OpenSpec.ofChange fnApartKeepsWithMoreLastsOrFewerFirstsSpec)

/-- ITS FALSE NEIGHBOUR: 'it returns false'. Refute it at one input. -/
def fnApartKeepsWithMoreLastsOrFewerFirstsWrong : ChangeSpec := { name := "fnApartKeepsWithMoreLastsOrFewerFirsts", fn := fun _ => fun
  | [d1, d2, d3, d4] => { results := [.lit (.bool false)], args := [d1, d2, d3, d4] }
  | _ => none }
def FnApartKeepsWithMoreLastsOrFewerFirstsWrongFalsely : Prop := fnApartKeepsWithMoreLastsOrFewerFirstsRow.holds Try.pinned (OpenSpec.ofChange fnApartKeepsWithMoreLastsOrFewerFirstsWrong)

/-- 'zzlaws_internal_btree_b1.FnApartExactlyWhenRecordsDoNotOverlap': WHATEVER THE INPUT: true; the input reads as it did. -/
def fnApartExactlyWhenRecordsDoNotOverlapSpec : ChangeSpec := { name := "fnApartExactlyWhenRecordsDoNotOverlap", fn := fun _ => fun
  | [d1, d2] => { results := [.lit (.bool true)], args := [d1, d2] }
  | _ => none }
def fnApartExactlyWhenRecordsDoNotOverlapRow : OpenClaim := { program := "qxb6600446a", sum := "d3db647b74fa57fc7c57f90d82e485a041931d31e18a6c1e287de5bf81018942", func := "example.com/undolane/undolane/zzlaws_internal_btree_b1.FnApartExactlyWhenRecordsDoNotOverlap", spec := "fnApartExactlyWhenRecordsDoNotOverlap", apart := false }
def FnApartExactlyWhenRecordsDoNotOverlapSaid : Prop := fnApartExactlyWhenRecordsDoNotOverlapRow.holds Try.pinned (OpenSpec.ofChange fnApartExactlyWhenRecordsDoNotOverlapSpec)

/-- ITS FALSE NEIGHBOUR: 'it returns false'. Refute it at one input. -/
def fnApartExactlyWhenRecordsDoNotOverlapWrong : ChangeSpec := { name := "fnApartExactlyWhenRecordsDoNotOverlap", fn := fun _ => fun
  | [d1, d2] => { results := [.lit (.bool false)], args := [d1, d2] }
  | _ => none }
def FnApartExactlyWhenRecordsDoNotOverlapWrongFalsely : Prop := fnApartExactlyWhenRecordsDoNotOverlapRow.holds Try.pinned (OpenSpec.ofChange fnApartExactlyWhenRecordsDoNotOverlapWrong)

end Rows
end Go.Proofs.Qxb6600446a
