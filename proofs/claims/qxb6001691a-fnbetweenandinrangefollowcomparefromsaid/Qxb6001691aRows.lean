/-
  No cell of these rows narrows 'for every input' (looked for: loops, veiled, ifaces, maps, wideKeys, modest, calm, conditions, laid).
  DERIVED. THE GIVEN ROWS OF THIS SEAT. 7 by the template 'for every input the law returns true; each argument reads behind the call as it read before'; 0 by the template 'total and deterministic' (their statements: Qxb6001691aTotals.lean).
  GIVEN WITH THE SEED: the statements are not yours to turn. If you find one false, say at which input.
  Laid BY PROGRAM, IN A SANDBOX (cutbox-rows.mjs): the forced cells as the released guide's own fill.sh prints them over the translation b62dbdd1dd65e34c… (all of the seat's roots in one cut). By AI agents, Wed Nov 11 2026. No macro, syntax, notation, axiom, sorry.
-/
import Derived.Test.Qxb6001691aChecked
import GoSem.Claim
import GoSem.ClaimJoined
import GoSem.ClaimMapViews
import Derived.JoinedTies
import Derived.KernelRfl
namespace Go.Proofs.Qxb6001691a
/- THE CELL 'sum', in the pinned program and in every row, IS THE sha256 OF THE DUMP (.gsa) THAT Qxb6001691aProg.lean LOADS. Nothing in Lean hashes anything: it is a label: what it is worth is what the hold of that sum in a sandbox is worth. -/
noncomputable def Try.pinned : Pinned := { name := "qxb6001691a", sum := "b62dbdd1dd65e34c631d1d25ff4a196cf1c12c1d33246c3d7d67124d319d07c3", checked := Try.checked }
namespace Rows
def none {H : Type} : Left H := { results := [], args := [] }

/-- 'zzlaws_root_g2.FnHeadBetweenIsRotatedArc': WHATEVER THE INPUT: true; the input reads as it did. -/
def fnHeadBetweenIsRotatedArcSpec : ChangeSpec := { name := "fnHeadBetweenIsRotatedArc", fn := fun _ => fun
  | [d1, d2, d3, d4] => { results := [.lit (.bool true)], args := [d1, d2, d3, d4] }
  | _ => none }
def fnHeadBetweenIsRotatedArcRow : OpenClaim := { program := "qxb6001691a", sum := "b62dbdd1dd65e34c631d1d25ff4a196cf1c12c1d33246c3d7d67124d319d07c3", func := "example.com/ringlet/ringlet/zzlaws_root_g2.FnHeadBetweenIsRotatedArc", spec := "fnHeadBetweenIsRotatedArc", apart := false }
def FnHeadBetweenIsRotatedArcSaid : Prop := fnHeadBetweenIsRotatedArcRow.holds Try.pinned (OpenSpec.ofChange fnHeadBetweenIsRotatedArcSpec)

/-- ITS FALSE NEIGHBOUR: 'it returns false'. Refute it at one input. -/
def fnHeadBetweenIsRotatedArcWrong : ChangeSpec := { name := "fnHeadBetweenIsRotatedArc", fn := fun _ => fun
  | [d1, d2, d3, d4] => { results := [.lit (.bool false)], args := [d1, d2, d3, d4] }
  | _ => none }
def FnHeadBetweenIsRotatedArcWrongFalsely : Prop := fnHeadBetweenIsRotatedArcRow.holds Try.pinned (OpenSpec.ofChange fnHeadBetweenIsRotatedArcWrong)

/-- 'zzlaws_root_g1.FnFingerStartsCountUpTo': WHATEVER THE INPUT: true; the input reads as it did. -/
def fnFingerStartsCountUpToSpec : ChangeSpec := { name := "fnFingerStartsCountUpTo", fn := fun _ => fun
  | [d1, d2, d3, d4] => { results := [.lit (.bool true)], args := [d1, d2, d3, d4] }
  | _ => none }
def fnFingerStartsCountUpToRow : OpenClaim := { program := "qxb6001691a", sum := "b62dbdd1dd65e34c631d1d25ff4a196cf1c12c1d33246c3d7d67124d319d07c3", func := "example.com/ringlet/ringlet/zzlaws_root_g1.FnFingerStartsCountUpTo", spec := "fnFingerStartsCountUpTo", inPlace := ["internal/bytealg.Compare"], named := ["encoding/binary.BigEndian"], apart := false }
def FnFingerStartsCountUpToSaid : Prop := fnFingerStartsCountUpToRow.holds Try.pinned (OpenSpec.ofChange fnFingerStartsCountUpToSpec)

/-- ITS FALSE NEIGHBOUR: 'it returns false'. Refute it at one input. -/
def fnFingerStartsCountUpToWrong : ChangeSpec := { name := "fnFingerStartsCountUpTo", fn := fun _ => fun
  | [d1, d2, d3, d4] => { results := [.lit (.bool false)], args := [d1, d2, d3, d4] }
  | _ => none }
def FnFingerStartsCountUpToWrongFalsely : Prop := fnFingerStartsCountUpToRow.holds Try.pinned (OpenSpec.ofChange fnFingerStartsCountUpToWrong)

/-- 'zzlaws_root_g1.FnCompareFromIsRingOrder': WHATEVER THE INPUT: true; the input reads as it did. -/
def fnCompareFromIsRingOrderSpec : ChangeSpec := { name := "fnCompareFromIsRingOrder", fn := fun _ => fun
  | [d1, d2, d3, d4, d5] => { results := [.lit (.bool true)], args := [d1, d2, d3, d4, d5] }
  | _ => none }
def fnCompareFromIsRingOrderRow : OpenClaim := { program := "qxb6001691a", sum := "b62dbdd1dd65e34c631d1d25ff4a196cf1c12c1d33246c3d7d67124d319d07c3", func := "example.com/ringlet/ringlet/zzlaws_root_g1.FnCompareFromIsRingOrder", spec := "fnCompareFromIsRingOrder", inPlace := ["internal/bytealg.Compare"], named := ["encoding/binary.BigEndian"], apart := false }
def FnCompareFromIsRingOrderSaid : Prop := fnCompareFromIsRingOrderRow.holds Try.pinned (OpenSpec.ofChange fnCompareFromIsRingOrderSpec)

/-- ITS FALSE NEIGHBOUR: 'it returns false'. Refute it at one input. -/
def fnCompareFromIsRingOrderWrong : ChangeSpec := { name := "fnCompareFromIsRingOrder", fn := fun _ => fun
  | [d1, d2, d3, d4, d5] => { results := [.lit (.bool false)], args := [d1, d2, d3, d4, d5] }
  | _ => none }
def FnCompareFromIsRingOrderWrongFalsely : Prop := fnCompareFromIsRingOrderRow.holds Try.pinned (OpenSpec.ofChange fnCompareFromIsRingOrderWrong)

/-- 'zzlaws_root_g1.FnBetweenAndInRangeFollowCompareFrom': WHATEVER THE INPUT: true; the input reads as it did. -/
def fnBetweenAndInRangeFollowCompareFromSpec : ChangeSpec := { name := "fnBetweenAndInRangeFollowCompareFrom", fn := fun _ => fun
  | [d1, d2, d3] => { results := [.lit (.bool true)], args := [d1, d2, d3] }
  | _ => none }
def fnBetweenAndInRangeFollowCompareFromRow : OpenClaim := { program := "qxb6001691a", sum := "b62dbdd1dd65e34c631d1d25ff4a196cf1c12c1d33246c3d7d67124d319d07c3", func := "example.com/ringlet/ringlet/zzlaws_root_g1.FnBetweenAndInRangeFollowCompareFrom", spec := "fnBetweenAndInRangeFollowCompareFrom", inPlace := ["internal/bytealg.Compare"], named := ["encoding/binary.BigEndian"], apart := false }
def FnBetweenAndInRangeFollowCompareFromSaid : Prop := fnBetweenAndInRangeFollowCompareFromRow.holds Try.pinned (OpenSpec.ofChange fnBetweenAndInRangeFollowCompareFromSpec)

/-- ITS FALSE NEIGHBOUR: 'it returns false'. Refute it at one input. -/
def fnBetweenAndInRangeFollowCompareFromWrong : ChangeSpec := { name := "fnBetweenAndInRangeFollowCompareFrom", fn := fun _ => fun
  | [d1, d2, d3] => { results := [.lit (.bool false)], args := [d1, d2, d3] }
  | _ => none }
def FnBetweenAndInRangeFollowCompareFromWrongFalsely : Prop := fnBetweenAndInRangeFollowCompareFromRow.holds Try.pinned (OpenSpec.ofChange fnBetweenAndInRangeFollowCompareFromWrong)

/-- 'zzlaws_root_g1.FnKeysAfterIgnoresMoreDead': WHATEVER THE INPUT: true; the input reads as it did. -/
def fnKeysAfterIgnoresMoreDeadSpec : ChangeSpec := { name := "fnKeysAfterIgnoresMoreDead", fn := fun _ => fun
  | [d1, d2, d3, d4] => { results := [.lit (.bool true)], args := [d1, d2, d3, d4] }
  | _ => none }
def fnKeysAfterIgnoresMoreDeadRow : OpenClaim := { program := "qxb6001691a", sum := "b62dbdd1dd65e34c631d1d25ff4a196cf1c12c1d33246c3d7d67124d319d07c3", func := "example.com/ringlet/ringlet/zzlaws_root_g1.FnKeysAfterIgnoresMoreDead", spec := "fnKeysAfterIgnoresMoreDead", apart := false }
def FnKeysAfterIgnoresMoreDeadSaid : Prop := fnKeysAfterIgnoresMoreDeadRow.holds Try.pinned (OpenSpec.ofChange fnKeysAfterIgnoresMoreDeadSpec)

/-- ITS FALSE NEIGHBOUR: 'it returns false'. Refute it at one input. -/
def fnKeysAfterIgnoresMoreDeadWrong : ChangeSpec := { name := "fnKeysAfterIgnoresMoreDead", fn := fun _ => fun
  | [d1, d2, d3, d4] => { results := [.lit (.bool false)], args := [d1, d2, d3, d4] }
  | _ => none }
def FnKeysAfterIgnoresMoreDeadWrongFalsely : Prop := fnKeysAfterIgnoresMoreDeadRow.holds Try.pinned (OpenSpec.ofChange fnKeysAfterIgnoresMoreDeadWrong)

/-- 'zzlaws_root_g1.FnTakeNextDrainsNextThenBackReversed': WHATEVER THE INPUT: true; the input reads as it did. -/
def fnTakeNextDrainsNextThenBackReversedSpec : ChangeSpec := { name := "fnTakeNextDrainsNextThenBackReversed", fn := fun _ => fun
  | [d1, d2] => { results := [.lit (.bool true)], args := [d1, d2] }
  | _ => none }
def fnTakeNextDrainsNextThenBackReversedRow : OpenClaim := { program := "qxb6001691a", sum := "b62dbdd1dd65e34c631d1d25ff4a196cf1c12c1d33246c3d7d67124d319d07c3", func := "example.com/ringlet/ringlet/zzlaws_root_g1.FnTakeNextDrainsNextThenBackReversed", spec := "fnTakeNextDrainsNextThenBackReversed", apart := false }
def FnTakeNextDrainsNextThenBackReversedSaid : Prop := fnTakeNextDrainsNextThenBackReversedRow.holds Try.pinned (OpenSpec.ofChange fnTakeNextDrainsNextThenBackReversedSpec)

/-- ITS FALSE NEIGHBOUR: 'it returns false'. Refute it at one input. -/
def fnTakeNextDrainsNextThenBackReversedWrong : ChangeSpec := { name := "fnTakeNextDrainsNextThenBackReversed", fn := fun _ => fun
  | [d1, d2] => { results := [.lit (.bool false)], args := [d1, d2] }
  | _ => none }
def FnTakeNextDrainsNextThenBackReversedWrongFalsely : Prop := fnTakeNextDrainsNextThenBackReversedRow.holds Try.pinned (OpenSpec.ofChange fnTakeNextDrainsNextThenBackReversedWrong)

/-- 'zzlaws_root_g1.FnDigestOfAddsOverConcatenation': WHATEVER THE INPUT: true; the input reads as it did. -/
def fnDigestOfAddsOverConcatenationSpec : ChangeSpec := { name := "fnDigestOfAddsOverConcatenation", fn := fun _ => fun
  | [d1, d2, d3, d4] => { results := [.lit (.bool true)], args := [d1, d2, d3, d4] }
  | _ => none }
def fnDigestOfAddsOverConcatenationRow : OpenClaim := { program := "qxb6001691a", sum := "b62dbdd1dd65e34c631d1d25ff4a196cf1c12c1d33246c3d7d67124d319d07c3", func := "example.com/ringlet/ringlet/zzlaws_root_g1.FnDigestOfAddsOverConcatenation", spec := "fnDigestOfAddsOverConcatenation", apart := false }
def FnDigestOfAddsOverConcatenationSaid : Prop := fnDigestOfAddsOverConcatenationRow.holds Try.pinned (OpenSpec.ofChange fnDigestOfAddsOverConcatenationSpec)

/-- ITS FALSE NEIGHBOUR: 'it returns false'. Refute it at one input. -/
def fnDigestOfAddsOverConcatenationWrong : ChangeSpec := { name := "fnDigestOfAddsOverConcatenation", fn := fun _ => fun
  | [d1, d2, d3, d4] => { results := [.lit (.bool false)], args := [d1, d2, d3, d4] }
  | _ => none }
def FnDigestOfAddsOverConcatenationWrongFalsely : Prop := fnDigestOfAddsOverConcatenationRow.holds Try.pinned (OpenSpec.ofChange fnDigestOfAddsOverConcatenationWrong)

end Rows
end Go.Proofs.Qxb6001691a
