/-
  No cell of these rows narrows 'for every input' (looked for: loops, veiled, ifaces, maps, wideKeys, modest, calm, conditions, laid).
  DERIVED. THE GIVEN ROWS OF THIS SEAT. 6 by the template 'for every input the law returns true; each argument reads behind the call as it read before'; 0 by the template 'total and deterministic' (their statements: Qxb6615810aTotals.lean).
  GIVEN WITH THE SEED: the statements are not yours to turn. If you find one false, say at which input.
  Laid BY PROGRAM, IN A SANDBOX (cutbox-rows.mjs): the forced cells as the released guide's own fill.sh prints them over the translation eb214a29fa3b96d3… (all of the seat's roots in one cut). By AI agents, Wed Nov 11 2026. No macro, syntax, notation, axiom, sorry.
-/
import Derived.Test.Qxb6615810aChecked
import GoSem.Claim
import GoSem.ClaimJoined
import GoSem.ClaimMapViews
import Derived.JoinedTies
import Derived.KernelRfl
namespace Go.Proofs.Qxb6615810a
/- THE CELL 'sum', in the pinned program and in every row, IS THE sha256 OF THE DUMP (.gsa) THAT Qxb6615810aProg.lean LOADS. Nothing in Lean hashes anything: it is a label: what it is worth is what the hold of that sum in a sandbox is worth. -/
noncomputable def Try.pinned : Pinned := { name := "qxb6615810a", sum := "eb214a29fa3b96d312148f4bfaa89deaa4eb8cf52294c249423aa04757cb0bf2", checked := Try.checked }
namespace Rows
def none {H : Type} : Left H := { results := [], args := [] }

/-- 'zzlaws_internal_graph_b1.FnEmptyCausalPastPlacesInvertLayoutAndRowsBlank': WHATEVER THE INPUT: true; the input reads as it did. -/
def fnEmptyCausalPastPlacesInvertLayoutAndRowsBlankSpec : ChangeSpec := { name := "fnEmptyCausalPastPlacesInvertLayoutAndRowsBlank", fn := fun _ => fun
  | [d] => { results := [.lit (.bool true)], args := [d] }
  | _ => none }
def fnEmptyCausalPastPlacesInvertLayoutAndRowsBlankRow : OpenClaim := { program := "qxb6615810a", sum := "eb214a29fa3b96d312148f4bfaa89deaa4eb8cf52294c249423aa04757cb0bf2", func := "example.com/visibilis/visibilis/zzlaws_internal_graph_b1.FnEmptyCausalPastPlacesInvertLayoutAndRowsBlank", spec := "fnEmptyCausalPastPlacesInvertLayoutAndRowsBlank", apart := false }
def FnEmptyCausalPastPlacesInvertLayoutAndRowsBlankSaid : Prop := fnEmptyCausalPastPlacesInvertLayoutAndRowsBlankRow.holds Try.pinned (OpenSpec.ofChange fnEmptyCausalPastPlacesInvertLayoutAndRowsBlankSpec)

/-- ITS FALSE NEIGHBOUR: 'it returns false'. Refute it at one input. -/
def fnEmptyCausalPastPlacesInvertLayoutAndRowsBlankWrong : ChangeSpec := { name := "fnEmptyCausalPastPlacesInvertLayoutAndRowsBlank", fn := fun _ => fun
  | [d] => { results := [.lit (.bool false)], args := [d] }
  | _ => none }
def FnEmptyCausalPastPlacesInvertLayoutAndRowsBlankWrongFalsely : Prop := fnEmptyCausalPastPlacesInvertLayoutAndRowsBlankRow.holds Try.pinned (OpenSpec.ofChange fnEmptyCausalPastPlacesInvertLayoutAndRowsBlankWrong)

/-- 'zzlaws_internal_graph_b1.FnCausalPastOfWriteLandsInItsOwnCell': WHATEVER THE INPUT: true; the input reads as it did. -/
def fnCausalPastOfWriteLandsInItsOwnCellSpec : ChangeSpec := { name := "fnCausalPastOfWriteLandsInItsOwnCell", fn := fun _ => fun
  | [d1, d2, d3, d4] => { results := [.lit (.bool true)], args := [d1, d2, d3, d4] }
  | _ => none }
def fnCausalPastOfWriteLandsInItsOwnCellRow : OpenClaim := { program := "qxb6615810a", sum := "eb214a29fa3b96d312148f4bfaa89deaa4eb8cf52294c249423aa04757cb0bf2", func := "example.com/visibilis/visibilis/zzlaws_internal_graph_b1.FnCausalPastOfWriteLandsInItsOwnCell", spec := "fnCausalPastOfWriteLandsInItsOwnCell", apart := false }
def FnCausalPastOfWriteLandsInItsOwnCellSaid : Prop := fnCausalPastOfWriteLandsInItsOwnCellRow.holds Try.pinned (OpenSpec.ofChange fnCausalPastOfWriteLandsInItsOwnCellSpec)

/-- ITS FALSE NEIGHBOUR: 'it returns false'. Refute it at one input. -/
def fnCausalPastOfWriteLandsInItsOwnCellWrong : ChangeSpec := { name := "fnCausalPastOfWriteLandsInItsOwnCell", fn := fun _ => fun
  | [d1, d2, d3, d4] => { results := [.lit (.bool false)], args := [d1, d2, d3, d4] }
  | _ => none }
def FnCausalPastOfWriteLandsInItsOwnCellWrongFalsely : Prop := fnCausalPastOfWriteLandsInItsOwnCellRow.holds Try.pinned (OpenSpec.ofChange fnCausalPastOfWriteLandsInItsOwnCellWrong)

/-- 'zzlaws_internal_graph_b1.FnByKeyPopDrainsInReverse': WHATEVER THE INPUT: true; the input reads as it did. -/
def fnByKeyPopDrainsInReverseSpec : ChangeSpec := { name := "fnByKeyPopDrainsInReverse", fn := fun _ => fun
  | [d] => { results := [.lit (.bool true)], args := [d] }
  | _ => none }
def fnByKeyPopDrainsInReverseRow : OpenClaim := { program := "qxb6615810a", sum := "eb214a29fa3b96d312148f4bfaa89deaa4eb8cf52294c249423aa04757cb0bf2", func := "example.com/visibilis/visibilis/zzlaws_internal_graph_b1.FnByKeyPopDrainsInReverse", spec := "fnByKeyPopDrainsInReverse", apart := false }
def FnByKeyPopDrainsInReverseSaid : Prop := fnByKeyPopDrainsInReverseRow.holds Try.pinned (OpenSpec.ofChange fnByKeyPopDrainsInReverseSpec)

/-- ITS FALSE NEIGHBOUR: 'it returns false'. Refute it at one input. -/
def fnByKeyPopDrainsInReverseWrong : ChangeSpec := { name := "fnByKeyPopDrainsInReverse", fn := fun _ => fun
  | [d] => { results := [.lit (.bool false)], args := [d] }
  | _ => none }
def FnByKeyPopDrainsInReverseWrongFalsely : Prop := fnByKeyPopDrainsInReverseRow.holds Try.pinned (OpenSpec.ofChange fnByKeyPopDrainsInReverseWrong)

/-- 'zzlaws_internal_graph_b1.FnByKeyPopOfJoinedIsPopOfTail': WHATEVER THE INPUT: true; the input reads as it did. -/
def fnByKeyPopOfJoinedIsPopOfTailSpec : ChangeSpec := { name := "fnByKeyPopOfJoinedIsPopOfTail", fn := fun _ => fun
  | [d1, d2] => { results := [.lit (.bool true)], args := [d1, d2] }
  | _ => none }
def fnByKeyPopOfJoinedIsPopOfTailRow : OpenClaim := { program := "qxb6615810a", sum := "eb214a29fa3b96d312148f4bfaa89deaa4eb8cf52294c249423aa04757cb0bf2", func := "example.com/visibilis/visibilis/zzlaws_internal_graph_b1.FnByKeyPopOfJoinedIsPopOfTail", spec := "fnByKeyPopOfJoinedIsPopOfTail", apart := false }
def FnByKeyPopOfJoinedIsPopOfTailSaid : Prop := fnByKeyPopOfJoinedIsPopOfTailRow.holds Try.pinned (OpenSpec.ofChange fnByKeyPopOfJoinedIsPopOfTailSpec)

/-- ITS FALSE NEIGHBOUR: 'it returns false'. Refute it at one input. -/
def fnByKeyPopOfJoinedIsPopOfTailWrong : ChangeSpec := { name := "fnByKeyPopOfJoinedIsPopOfTail", fn := fun _ => fun
  | [d1, d2] => { results := [.lit (.bool false)], args := [d1, d2] }
  | _ => none }
def FnByKeyPopOfJoinedIsPopOfTailWrongFalsely : Prop := fnByKeyPopOfJoinedIsPopOfTailRow.holds Try.pinned (OpenSpec.ofChange fnByKeyPopOfJoinedIsPopOfTailWrong)

/-- 'zzlaws_internal_graph_b1.FnDynamicOrderAddAcceptsExactlyAcyclicEdges': WHATEVER THE INPUT: true; the input reads as it did. -/
def fnDynamicOrderAddAcceptsExactlyAcyclicEdgesSpec : ChangeSpec := { name := "fnDynamicOrderAddAcceptsExactlyAcyclicEdges", fn := fun _ => fun
  | [d1, d2, d3, d4, d5] => { results := [.lit (.bool true)], args := [d1, d2, d3, d4, d5] }
  | _ => none }
def fnDynamicOrderAddAcceptsExactlyAcyclicEdgesRow : OpenClaim := { program := "qxb6615810a", sum := "eb214a29fa3b96d312148f4bfaa89deaa4eb8cf52294c249423aa04757cb0bf2", func := "example.com/visibilis/visibilis/zzlaws_internal_graph_b1.FnDynamicOrderAddAcceptsExactlyAcyclicEdges", spec := "fnDynamicOrderAddAcceptsExactlyAcyclicEdges", unfollowed := true, recurses := true, apart := false }
def FnDynamicOrderAddAcceptsExactlyAcyclicEdgesSaid : Prop := fnDynamicOrderAddAcceptsExactlyAcyclicEdgesRow.holds Try.pinned (OpenSpec.ofChange fnDynamicOrderAddAcceptsExactlyAcyclicEdgesSpec)

/-- ITS FALSE NEIGHBOUR: 'it returns false'. Refute it at one input. -/
def fnDynamicOrderAddAcceptsExactlyAcyclicEdgesWrong : ChangeSpec := { name := "fnDynamicOrderAddAcceptsExactlyAcyclicEdges", fn := fun _ => fun
  | [d1, d2, d3, d4, d5] => { results := [.lit (.bool false)], args := [d1, d2, d3, d4, d5] }
  | _ => none }
def FnDynamicOrderAddAcceptsExactlyAcyclicEdgesWrongFalsely : Prop := fnDynamicOrderAddAcceptsExactlyAcyclicEdgesRow.holds Try.pinned (OpenSpec.ofChange fnDynamicOrderAddAcceptsExactlyAcyclicEdgesWrong)

/-- 'zzlaws_internal_graph_b1.FnDynamicOrderRefusalCarriesCycleAndMovesNothing': WHATEVER THE INPUT: true; the input reads as it did. -/
def fnDynamicOrderRefusalCarriesCycleAndMovesNothingSpec : ChangeSpec := { name := "fnDynamicOrderRefusalCarriesCycleAndMovesNothing", fn := fun _ => fun
  | [d1, d2, d3, d4, d5] => { results := [.lit (.bool true)], args := [d1, d2, d3, d4, d5] }
  | _ => none }
def fnDynamicOrderRefusalCarriesCycleAndMovesNothingRow : OpenClaim := { program := "qxb6615810a", sum := "eb214a29fa3b96d312148f4bfaa89deaa4eb8cf52294c249423aa04757cb0bf2", func := "example.com/visibilis/visibilis/zzlaws_internal_graph_b1.FnDynamicOrderRefusalCarriesCycleAndMovesNothing", spec := "fnDynamicOrderRefusalCarriesCycleAndMovesNothing", unfollowed := true, recurses := true, apart := false }
def FnDynamicOrderRefusalCarriesCycleAndMovesNothingSaid : Prop := fnDynamicOrderRefusalCarriesCycleAndMovesNothingRow.holds Try.pinned (OpenSpec.ofChange fnDynamicOrderRefusalCarriesCycleAndMovesNothingSpec)

/-- ITS FALSE NEIGHBOUR: 'it returns false'. Refute it at one input. -/
def fnDynamicOrderRefusalCarriesCycleAndMovesNothingWrong : ChangeSpec := { name := "fnDynamicOrderRefusalCarriesCycleAndMovesNothing", fn := fun _ => fun
  | [d1, d2, d3, d4, d5] => { results := [.lit (.bool false)], args := [d1, d2, d3, d4, d5] }
  | _ => none }
def FnDynamicOrderRefusalCarriesCycleAndMovesNothingWrongFalsely : Prop := fnDynamicOrderRefusalCarriesCycleAndMovesNothingRow.holds Try.pinned (OpenSpec.ofChange fnDynamicOrderRefusalCarriesCycleAndMovesNothingWrong)

end Rows
end Go.Proofs.Qxb6615810a
