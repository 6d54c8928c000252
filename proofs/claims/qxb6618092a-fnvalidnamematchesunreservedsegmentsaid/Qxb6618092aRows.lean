/-
  No cell of these rows narrows 'for every input' (looked for: loops, veiled, ifaces, maps, wideKeys, modest, calm, conditions, laid).
  DERIVED. THE GIVEN ROWS OF THIS SEAT. 3 by the template 'for every input the law returns true; each argument reads behind the call as it read before'; 0 by the template 'total and deterministic' (their statements: Qxb6618092aTotals.lean).
  GIVEN WITH THE SEED: the statements are not yours to turn. If you find one false, say at which input.
  Laid BY PROGRAM, IN A SANDBOX (cutbox-rows.mjs): the forced cells as the released guide's own fill.sh prints them over the translation ae2f71081d38cc34… (all of the seat's roots in one cut). By AI agents, Wed Nov 11 2026. No macro, syntax, notation, axiom, sorry.
-/
import Derived.Test.Qxb6618092aChecked
import GoSem.Claim
import GoSem.ClaimJoined
import GoSem.ClaimMapViews
import Derived.JoinedTies
import Derived.KernelRfl
namespace Go.Proofs.Qxb6618092a
/- THE CELL 'sum', in the pinned program and in every row, IS THE sha256 OF THE DUMP (.gsa) THAT Qxb6618092aProg.lean LOADS. Nothing in Lean hashes anything: it is a label: what it is worth is what the hold of that sum in a sandbox is worth. -/
noncomputable def Try.pinned : Pinned := { name := "qxb6618092a", sum := "ae2f71081d38cc345ec06e45f6b3a93209ecfdb2c0837c57d224626a5fbf2d04", checked := Try.checked }
namespace Rows
def none {H : Type} : Left H := { results := [], args := [] }

/-- 'zzlaws_internal_api_b1.FnParseLeasePathInvertsLeasePath': WHATEVER THE INPUT: true; the input reads as it did. -/
def fnParseLeasePathInvertsLeasePathSpec : ChangeSpec := { name := "fnParseLeasePathInvertsLeasePath", fn := fun _ => fun
  | [d1, d2] => { results := [.lit (.bool true)], args := [d1, d2] }
  | _ => none }
def fnParseLeasePathInvertsLeasePathRow : OpenClaim := { program := "qxb6618092a", sum := "ae2f71081d38cc345ec06e45f6b3a93209ecfdb2c0837c57d224626a5fbf2d04", func := "example.com/tenure/tenure/zzlaws_internal_api_b1.FnParseLeasePathInvertsLeasePath", spec := "fnParseLeasePathInvertsLeasePath", inPlace := ["internal/bytealg.IndexByteString", "internal/bytealg.IndexString"], named := ["internal/bytealg.MaxLen"], apart := false }
def FnParseLeasePathInvertsLeasePathSaid : Prop := fnParseLeasePathInvertsLeasePathRow.holds Try.pinned (OpenSpec.ofChange fnParseLeasePathInvertsLeasePathSpec)

/-- ITS FALSE NEIGHBOUR: 'it returns false'. Refute it at one input. -/
def fnParseLeasePathInvertsLeasePathWrong : ChangeSpec := { name := "fnParseLeasePathInvertsLeasePath", fn := fun _ => fun
  | [d1, d2] => { results := [.lit (.bool false)], args := [d1, d2] }
  | _ => none }
def FnParseLeasePathInvertsLeasePathWrongFalsely : Prop := fnParseLeasePathInvertsLeasePathRow.holds Try.pinned (OpenSpec.ofChange fnParseLeasePathInvertsLeasePathWrong)

/-- 'zzlaws_internal_api_b1.FnParseLeasePathAppendedSegment': WHATEVER THE INPUT: true; the input reads as it did. -/
def fnParseLeasePathAppendedSegmentSpec : ChangeSpec := { name := "fnParseLeasePathAppendedSegment", fn := fun _ => fun
  | [d1, d2, d3] => { results := [.lit (.bool true)], args := [d1, d2, d3] }
  | _ => none }
def fnParseLeasePathAppendedSegmentRow : OpenClaim := { program := "qxb6618092a", sum := "ae2f71081d38cc345ec06e45f6b3a93209ecfdb2c0837c57d224626a5fbf2d04", func := "example.com/tenure/tenure/zzlaws_internal_api_b1.FnParseLeasePathAppendedSegment", spec := "fnParseLeasePathAppendedSegment", inPlace := ["internal/bytealg.IndexByteString", "internal/bytealg.IndexString"], named := ["internal/bytealg.MaxLen"], apart := false }
def FnParseLeasePathAppendedSegmentSaid : Prop := fnParseLeasePathAppendedSegmentRow.holds Try.pinned (OpenSpec.ofChange fnParseLeasePathAppendedSegmentSpec)

/-- ITS FALSE NEIGHBOUR: 'it returns false'. Refute it at one input. -/
def fnParseLeasePathAppendedSegmentWrong : ChangeSpec := { name := "fnParseLeasePathAppendedSegment", fn := fun _ => fun
  | [d1, d2, d3] => { results := [.lit (.bool false)], args := [d1, d2, d3] }
  | _ => none }
def FnParseLeasePathAppendedSegmentWrongFalsely : Prop := fnParseLeasePathAppendedSegmentRow.holds Try.pinned (OpenSpec.ofChange fnParseLeasePathAppendedSegmentWrong)

/-- 'zzlaws_internal_api_b1.FnValidNameMatchesUnreservedSegment': WHATEVER THE INPUT: true; the input reads as it did. -/
def fnValidNameMatchesUnreservedSegmentSpec : ChangeSpec := { name := "fnValidNameMatchesUnreservedSegment", fn := fun _ => fun
  | [d] => { results := [.lit (.bool true)], args := [d] }
  | _ => none }
def fnValidNameMatchesUnreservedSegmentRow : OpenClaim := { program := "qxb6618092a", sum := "ae2f71081d38cc345ec06e45f6b3a93209ecfdb2c0837c57d224626a5fbf2d04", func := "example.com/tenure/tenure/zzlaws_internal_api_b1.FnValidNameMatchesUnreservedSegment", spec := "fnValidNameMatchesUnreservedSegment", apart := false }
def FnValidNameMatchesUnreservedSegmentSaid : Prop := fnValidNameMatchesUnreservedSegmentRow.holds Try.pinned (OpenSpec.ofChange fnValidNameMatchesUnreservedSegmentSpec)

/-- ITS FALSE NEIGHBOUR: 'it returns false'. Refute it at one input. -/
def fnValidNameMatchesUnreservedSegmentWrong : ChangeSpec := { name := "fnValidNameMatchesUnreservedSegment", fn := fun _ => fun
  | [d] => { results := [.lit (.bool false)], args := [d] }
  | _ => none }
def FnValidNameMatchesUnreservedSegmentWrongFalsely : Prop := fnValidNameMatchesUnreservedSegmentRow.holds Try.pinned (OpenSpec.ofChange fnValidNameMatchesUnreservedSegmentWrong)

end Rows
end Go.Proofs.Qxb6618092a
