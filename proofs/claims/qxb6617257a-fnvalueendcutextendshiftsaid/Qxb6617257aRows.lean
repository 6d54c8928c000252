/-
  No cell of these rows narrows 'for every input' (looked for: loops, veiled, ifaces, maps, wideKeys, modest, calm, conditions, laid).
  DERIVED. THE GIVEN ROWS OF THIS SEAT. 4 by the template 'for every input the law returns true; each argument reads behind the call as it read before'; 0 by the template 'total and deterministic' (their statements: Qxb6617257aTotals.lean).
  GIVEN WITH THE SEED: the statements are not yours to turn. If you find one false, say at which input.
  Laid BY PROGRAM, IN A SANDBOX (cutbox-rows.mjs): the forced cells as the released guide's own fill.sh prints them over the translation 1673c18d990803df… (all of the seat's roots in one cut). By AI agents, Wed Nov 11 2026. No macro, syntax, notation, axiom, sorry.
-/
import Derived.Test.Qxb6617257aChecked
import GoSem.Claim
import GoSem.ClaimJoined
import GoSem.ClaimMapViews
import Derived.JoinedTies
import Derived.KernelRfl
namespace Go.Proofs.Qxb6617257a
/- THE CELL 'sum', in the pinned program and in every row, IS THE sha256 OF THE DUMP (.gsa) THAT Qxb6617257aProg.lean LOADS. Nothing in Lean hashes anything: it is a label: what it is worth is what the hold of that sum in a sandbox is worth. -/
noncomputable def Try.pinned : Pinned := { name := "qxb6617257a", sum := "1673c18d990803dfbe07609a427c99d9f679c106cd5d004369aadb23ec1ebfe0", checked := Try.checked }
namespace Rows
def none {H : Type} : Left H := { results := [], args := [] }

/-- 'zzlaws_pkg_ledger_b1.FnSkipSpaceJoinIsLeast': WHATEVER THE INPUT: true; the input reads as it did. -/
def fnSkipSpaceJoinIsLeastSpec : ChangeSpec := { name := "fnSkipSpaceJoinIsLeast", fn := fun _ => fun
  | [d1, d2, d3] => { results := [.lit (.bool true)], args := [d1, d2, d3] }
  | _ => none }
def fnSkipSpaceJoinIsLeastRow : OpenClaim := { program := "qxb6617257a", sum := "1673c18d990803dfbe07609a427c99d9f679c106cd5d004369aadb23ec1ebfe0", func := "example.com/strikewell/strikewell/zzlaws_pkg_ledger_b1.FnSkipSpaceJoinIsLeast", spec := "fnSkipSpaceJoinIsLeast", apart := false }
def FnSkipSpaceJoinIsLeastSaid : Prop := fnSkipSpaceJoinIsLeastRow.holds Try.pinned (OpenSpec.ofChange fnSkipSpaceJoinIsLeastSpec)

/-- ITS FALSE NEIGHBOUR: 'it returns false'. Refute it at one input. -/
def fnSkipSpaceJoinIsLeastWrong : ChangeSpec := { name := "fnSkipSpaceJoinIsLeast", fn := fun _ => fun
  | [d1, d2, d3] => { results := [.lit (.bool false)], args := [d1, d2, d3] }
  | _ => none }
def FnSkipSpaceJoinIsLeastWrongFalsely : Prop := fnSkipSpaceJoinIsLeastRow.holds Try.pinned (OpenSpec.ofChange fnSkipSpaceJoinIsLeastWrong)

/-- 'zzlaws_pkg_ledger_b1.FnStringEndByBackslashParity': WHATEVER THE INPUT: true; the input reads as it did. -/
def fnStringEndByBackslashParitySpec : ChangeSpec := { name := "fnStringEndByBackslashParity", fn := fun _ => fun
  | [d1, d2] => { results := [.lit (.bool true)], args := [d1, d2] }
  | _ => none }
def fnStringEndByBackslashParityRow : OpenClaim := { program := "qxb6617257a", sum := "1673c18d990803dfbe07609a427c99d9f679c106cd5d004369aadb23ec1ebfe0", func := "example.com/strikewell/strikewell/zzlaws_pkg_ledger_b1.FnStringEndByBackslashParity", spec := "fnStringEndByBackslashParity", apart := false }
def FnStringEndByBackslashParitySaid : Prop := fnStringEndByBackslashParityRow.holds Try.pinned (OpenSpec.ofChange fnStringEndByBackslashParitySpec)

/-- ITS FALSE NEIGHBOUR: 'it returns false'. Refute it at one input. -/
def fnStringEndByBackslashParityWrong : ChangeSpec := { name := "fnStringEndByBackslashParity", fn := fun _ => fun
  | [d1, d2] => { results := [.lit (.bool false)], args := [d1, d2] }
  | _ => none }
def FnStringEndByBackslashParityWrongFalsely : Prop := fnStringEndByBackslashParityRow.holds Try.pinned (OpenSpec.ofChange fnStringEndByBackslashParityWrong)

/-- 'zzlaws_pkg_ledger_b1.FnStringEndPrefixStable': WHATEVER THE INPUT: true; the input reads as it did. -/
def fnStringEndPrefixStableSpec : ChangeSpec := { name := "fnStringEndPrefixStable", fn := fun _ => fun
  | [d1, d2, d3] => { results := [.lit (.bool true)], args := [d1, d2, d3] }
  | _ => none }
def fnStringEndPrefixStableRow : OpenClaim := { program := "qxb6617257a", sum := "1673c18d990803dfbe07609a427c99d9f679c106cd5d004369aadb23ec1ebfe0", func := "example.com/strikewell/strikewell/zzlaws_pkg_ledger_b1.FnStringEndPrefixStable", spec := "fnStringEndPrefixStable", apart := false }
def FnStringEndPrefixStableSaid : Prop := fnStringEndPrefixStableRow.holds Try.pinned (OpenSpec.ofChange fnStringEndPrefixStableSpec)

/-- ITS FALSE NEIGHBOUR: 'it returns false'. Refute it at one input. -/
def fnStringEndPrefixStableWrong : ChangeSpec := { name := "fnStringEndPrefixStable", fn := fun _ => fun
  | [d1, d2, d3] => { results := [.lit (.bool false)], args := [d1, d2, d3] }
  | _ => none }
def FnStringEndPrefixStableWrongFalsely : Prop := fnStringEndPrefixStableRow.holds Try.pinned (OpenSpec.ofChange fnStringEndPrefixStableWrong)

/-- 'zzlaws_pkg_ledger_b1.FnValueEndCutExtendShift': WHATEVER THE INPUT: true; the input reads as it did. -/
def fnValueEndCutExtendShiftSpec : ChangeSpec := { name := "fnValueEndCutExtendShift", fn := fun _ => fun
  | [d1, d2, d3] => { results := [.lit (.bool true)], args := [d1, d2, d3] }
  | _ => none }
def fnValueEndCutExtendShiftRow : OpenClaim := { program := "qxb6617257a", sum := "1673c18d990803dfbe07609a427c99d9f679c106cd5d004369aadb23ec1ebfe0", func := "example.com/strikewell/strikewell/zzlaws_pkg_ledger_b1.FnValueEndCutExtendShift", spec := "fnValueEndCutExtendShift", apart := false }
def FnValueEndCutExtendShiftSaid : Prop := fnValueEndCutExtendShiftRow.holds Try.pinned (OpenSpec.ofChange fnValueEndCutExtendShiftSpec)

/-- ITS FALSE NEIGHBOUR: 'it returns false'. Refute it at one input. -/
def fnValueEndCutExtendShiftWrong : ChangeSpec := { name := "fnValueEndCutExtendShift", fn := fun _ => fun
  | [d1, d2, d3] => { results := [.lit (.bool false)], args := [d1, d2, d3] }
  | _ => none }
def FnValueEndCutExtendShiftWrongFalsely : Prop := fnValueEndCutExtendShiftRow.holds Try.pinned (OpenSpec.ofChange fnValueEndCutExtendShiftWrong)

end Rows
end Go.Proofs.Qxb6617257a
