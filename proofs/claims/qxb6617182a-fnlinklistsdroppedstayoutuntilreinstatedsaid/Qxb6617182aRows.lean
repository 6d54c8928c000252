/-
  No cell of these rows narrows 'for every input' (looked for: loops, veiled, ifaces, maps, wideKeys, modest, calm, conditions, laid).
  DERIVED. THE GIVEN ROWS OF THIS SEAT. 3 by the template 'for every input the law returns true; each argument reads behind the call as it read before'; 0 by the template 'total and deterministic' (their statements: Qxb6617182aTotals.lean).
  GIVEN WITH THE SEED: the statements are not yours to turn. If you find one false, say at which input.
  Laid BY PROGRAM, IN A SANDBOX (cutbox-rows.mjs): the forced cells as the released guide's own fill.sh prints them over the translation bd3a04446519ecf8… (all of the seat's roots in one cut). By AI agents, Wed Nov 11 2026. No macro, syntax, notation, axiom, sorry.
-/
import Derived.Test.Qxb6617182aChecked
import GoSem.Claim
import GoSem.ClaimJoined
import GoSem.ClaimMapViews
import Derived.JoinedTies
import Derived.KernelRfl
namespace Go.Proofs.Qxb6617182a
/- THE CELL 'sum', in the pinned program and in every row, IS THE sha256 OF THE DUMP (.gsa) THAT Qxb6617182aProg.lean LOADS. Nothing in Lean hashes anything: it is a label: what it is worth is what the hold of that sum in a sandbox is worth. -/
noncomputable def Try.pinned : Pinned := { name := "qxb6617182a", sum := "bd3a04446519ecf8c5a71afbb2529f3bec0ca57fa6bca73a09438d6423b447ac", checked := Try.checked }
namespace Rows
def none {H : Type} : Left H := { results := [], args := [] }

/-- 'zzlaws_internal_search_b1.FnNewLinkListsTransposesArrows': WHATEVER THE INPUT: true; the input reads as it did. -/
def fnNewLinkListsTransposesArrowsSpec : ChangeSpec := { name := "fnNewLinkListsTransposesArrows", fn := fun _ => fun
  | [d1, d2] => { results := [.lit (.bool true)], args := [d1, d2] }
  | _ => none }
def fnNewLinkListsTransposesArrowsRow : OpenClaim := { program := "qxb6617182a", sum := "bd3a04446519ecf8c5a71afbb2529f3bec0ca57fa6bca73a09438d6423b447ac", func := "example.com/isoscope/isoscope/zzlaws_internal_search_b1.FnNewLinkListsTransposesArrows", spec := "fnNewLinkListsTransposesArrows", apart := false }
def FnNewLinkListsTransposesArrowsSaid : Prop := fnNewLinkListsTransposesArrowsRow.holds Try.pinned (OpenSpec.ofChange fnNewLinkListsTransposesArrowsSpec)

/-- ITS FALSE NEIGHBOUR: 'it returns false'. Refute it at one input. -/
def fnNewLinkListsTransposesArrowsWrong : ChangeSpec := { name := "fnNewLinkListsTransposesArrows", fn := fun _ => fun
  | [d1, d2] => { results := [.lit (.bool false)], args := [d1, d2] }
  | _ => none }
def FnNewLinkListsTransposesArrowsWrongFalsely : Prop := fnNewLinkListsTransposesArrowsRow.holds Try.pinned (OpenSpec.ofChange fnNewLinkListsTransposesArrowsWrong)

/-- 'zzlaws_internal_search_b1.FnLinkListsWalkVisitsEachNeighbourOnce': WHATEVER THE INPUT: true; the input reads as it did. -/
def fnLinkListsWalkVisitsEachNeighbourOnceSpec : ChangeSpec := { name := "fnLinkListsWalkVisitsEachNeighbourOnce", fn := fun _ => fun
  | [d1, d2, d3, d4] => { results := [.lit (.bool true)], args := [d1, d2, d3, d4] }
  | _ => none }
def fnLinkListsWalkVisitsEachNeighbourOnceRow : OpenClaim := { program := "qxb6617182a", sum := "bd3a04446519ecf8c5a71afbb2529f3bec0ca57fa6bca73a09438d6423b447ac", func := "example.com/isoscope/isoscope/zzlaws_internal_search_b1.FnLinkListsWalkVisitsEachNeighbourOnce", spec := "fnLinkListsWalkVisitsEachNeighbourOnce", apart := false }
def FnLinkListsWalkVisitsEachNeighbourOnceSaid : Prop := fnLinkListsWalkVisitsEachNeighbourOnceRow.holds Try.pinned (OpenSpec.ofChange fnLinkListsWalkVisitsEachNeighbourOnceSpec)

/-- ITS FALSE NEIGHBOUR: 'it returns false'. Refute it at one input. -/
def fnLinkListsWalkVisitsEachNeighbourOnceWrong : ChangeSpec := { name := "fnLinkListsWalkVisitsEachNeighbourOnce", fn := fun _ => fun
  | [d1, d2, d3, d4] => { results := [.lit (.bool false)], args := [d1, d2, d3, d4] }
  | _ => none }
def FnLinkListsWalkVisitsEachNeighbourOnceWrongFalsely : Prop := fnLinkListsWalkVisitsEachNeighbourOnceRow.holds Try.pinned (OpenSpec.ofChange fnLinkListsWalkVisitsEachNeighbourOnceWrong)

/-- 'zzlaws_internal_search_b1.FnLinkListsDroppedStayOutUntilReinstated': WHATEVER THE INPUT: true; the input reads as it did. -/
def fnLinkListsDroppedStayOutUntilReinstatedSpec : ChangeSpec := { name := "fnLinkListsDroppedStayOutUntilReinstated", fn := fun _ => fun
  | [d1, d2, d3, d4, d5] => { results := [.lit (.bool true)], args := [d1, d2, d3, d4, d5] }
  | _ => none }
def fnLinkListsDroppedStayOutUntilReinstatedRow : OpenClaim := { program := "qxb6617182a", sum := "bd3a04446519ecf8c5a71afbb2529f3bec0ca57fa6bca73a09438d6423b447ac", func := "example.com/isoscope/isoscope/zzlaws_internal_search_b1.FnLinkListsDroppedStayOutUntilReinstated", spec := "fnLinkListsDroppedStayOutUntilReinstated", apart := false }
def FnLinkListsDroppedStayOutUntilReinstatedSaid : Prop := fnLinkListsDroppedStayOutUntilReinstatedRow.holds Try.pinned (OpenSpec.ofChange fnLinkListsDroppedStayOutUntilReinstatedSpec)

/-- ITS FALSE NEIGHBOUR: 'it returns false'. Refute it at one input. -/
def fnLinkListsDroppedStayOutUntilReinstatedWrong : ChangeSpec := { name := "fnLinkListsDroppedStayOutUntilReinstated", fn := fun _ => fun
  | [d1, d2, d3, d4, d5] => { results := [.lit (.bool false)], args := [d1, d2, d3, d4, d5] }
  | _ => none }
def FnLinkListsDroppedStayOutUntilReinstatedWrongFalsely : Prop := fnLinkListsDroppedStayOutUntilReinstatedRow.holds Try.pinned (OpenSpec.ofChange fnLinkListsDroppedStayOutUntilReinstatedWrong)

end Rows
end Go.Proofs.Qxb6617182a
