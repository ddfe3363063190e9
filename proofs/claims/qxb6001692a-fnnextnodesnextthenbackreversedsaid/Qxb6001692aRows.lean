/-
  No cell of these rows narrows 'for every input' (looked for: loops, veiled, ifaces, maps, wideKeys, modest, calm, conditions, laid).
  DERIVED. THE GIVEN ROWS OF THIS SEAT. 5 by the template 'for every input the law returns true; each argument reads behind the call as it read before'; 0 by the template 'total and deterministic' (their statements: Qxb6001692aTotals.lean).
  GIVEN WITH THE SEED: the statements are not yours to turn. If you find one false, say at which input.
  Laid BY PROGRAM, IN A SANDBOX (cutbox-rows.mjs): the forced cells as the released guide's own fill.sh prints them over the translation eb782716f6123ea2… (all of the seat's roots in one cut). By AI agents, Wed Nov 11 2026. No macro, syntax, notation, axiom, sorry.
-/
import Derived.Test.Qxb6001692aChecked
import GoSem.Claim
import GoSem.ClaimJoined
import GoSem.ClaimMapViews
import Derived.JoinedTies
import Derived.KernelRfl
namespace Go.Proofs.Qxb6001692a
/- THE CELL 'sum', in the pinned program and in every row, IS THE sha256 OF THE DUMP (.gsa) THAT Qxb6001692aProg.lean LOADS. Nothing in Lean hashes anything: it is a label: what it is worth is what the hold of that sum in a sandbox is worth. -/
noncomputable def Try.pinned : Pinned := { name := "qxb6001692a", sum := "eb782716f6123ea2943724559527f4611bb9658154c241a1716277b533ad7e43", checked := Try.checked }
namespace Rows
def none {H : Type} : Left H := { results := [], args := [] }

/-- 'zzlaws_root_g1.FnRecordSizeAddsItsParts': WHATEVER THE INPUT: true; the input reads as it did. -/
def fnRecordSizeAddsItsPartsSpec : ChangeSpec := { name := "fnRecordSizeAddsItsParts", fn := fun _ => fun
  | [d1, d2, d3, d4, d5] => { results := [.lit (.bool true)], args := [d1, d2, d3, d4, d5] }
  | _ => none }
def fnRecordSizeAddsItsPartsRow : OpenClaim := { program := "qxb6001692a", sum := "eb782716f6123ea2943724559527f4611bb9658154c241a1716277b533ad7e43", func := "example.com/ringlet/ringlet/zzlaws_root_g1.FnRecordSizeAddsItsParts", spec := "fnRecordSizeAddsItsParts", apart := false }
def FnRecordSizeAddsItsPartsSaid : Prop := fnRecordSizeAddsItsPartsRow.holds Try.pinned (OpenSpec.ofChange fnRecordSizeAddsItsPartsSpec)

/-- ITS FALSE NEIGHBOUR: 'it returns false'. Refute it at one input. -/
def fnRecordSizeAddsItsPartsWrong : ChangeSpec := { name := "fnRecordSizeAddsItsParts", fn := fun _ => fun
  | [d1, d2, d3, d4, d5] => { results := [.lit (.bool false)], args := [d1, d2, d3, d4, d5] }
  | _ => none }
def FnRecordSizeAddsItsPartsWrongFalsely : Prop := fnRecordSizeAddsItsPartsRow.holds Try.pinned (OpenSpec.ofChange fnRecordSizeAddsItsPartsWrong)

/-- 'zzlaws_root_g2.FnInRangeMatchesDistanceModel': WHATEVER THE INPUT: true; the input reads as it did. -/
def fnInRangeMatchesDistanceModelSpec : ChangeSpec := { name := "fnInRangeMatchesDistanceModel", fn := fun _ => fun
  | [d1, d2, d3] => { results := [.lit (.bool true)], args := [d1, d2, d3] }
  | _ => none }
def fnInRangeMatchesDistanceModelRow : OpenClaim := { program := "qxb6001692a", sum := "eb782716f6123ea2943724559527f4611bb9658154c241a1716277b533ad7e43", func := "example.com/ringlet/ringlet/zzlaws_root_g2.FnInRangeMatchesDistanceModel", spec := "fnInRangeMatchesDistanceModel", inPlace := ["internal/bytealg.Compare"], named := ["encoding/binary.BigEndian"], apart := false }
def FnInRangeMatchesDistanceModelSaid : Prop := fnInRangeMatchesDistanceModelRow.holds Try.pinned (OpenSpec.ofChange fnInRangeMatchesDistanceModelSpec)

/-- ITS FALSE NEIGHBOUR: 'it returns false'. Refute it at one input. -/
def fnInRangeMatchesDistanceModelWrong : ChangeSpec := { name := "fnInRangeMatchesDistanceModel", fn := fun _ => fun
  | [d1, d2, d3] => { results := [.lit (.bool false)], args := [d1, d2, d3] }
  | _ => none }
def FnInRangeMatchesDistanceModelWrongFalsely : Prop := fnInRangeMatchesDistanceModelRow.holds Try.pinned (OpenSpec.ofChange fnInRangeMatchesDistanceModelWrong)

/-- 'zzlaws_root_g2.FnInRangeSplitsRing': WHATEVER THE INPUT: true; the input reads as it did. -/
def fnInRangeSplitsRingSpec : ChangeSpec := { name := "fnInRangeSplitsRing", fn := fun _ => fun
  | [d1, d2, d3] => { results := [.lit (.bool true)], args := [d1, d2, d3] }
  | _ => none }
def fnInRangeSplitsRingRow : OpenClaim := { program := "qxb6001692a", sum := "eb782716f6123ea2943724559527f4611bb9658154c241a1716277b533ad7e43", func := "example.com/ringlet/ringlet/zzlaws_root_g2.FnInRangeSplitsRing", spec := "fnInRangeSplitsRing", inPlace := ["internal/bytealg.Compare"], named := ["encoding/binary.BigEndian"], apart := false }
def FnInRangeSplitsRingSaid : Prop := fnInRangeSplitsRingRow.holds Try.pinned (OpenSpec.ofChange fnInRangeSplitsRingSpec)

/-- ITS FALSE NEIGHBOUR: 'it returns false'. Refute it at one input. -/
def fnInRangeSplitsRingWrong : ChangeSpec := { name := "fnInRangeSplitsRing", fn := fun _ => fun
  | [d1, d2, d3] => { results := [.lit (.bool false)], args := [d1, d2, d3] }
  | _ => none }
def FnInRangeSplitsRingWrongFalsely : Prop := fnInRangeSplitsRingRow.holds Try.pinned (OpenSpec.ofChange fnInRangeSplitsRingWrong)

/-- 'zzlaws_root_g2.FnMovedOnIsDepartingMinusNewcomerSpan': WHATEVER THE INPUT: true; the input reads as it did. -/
def fnMovedOnIsDepartingMinusNewcomerSpanSpec : ChangeSpec := { name := "fnMovedOnIsDepartingMinusNewcomerSpan", fn := fun _ => fun
  | [d1, d2, d3, d4, d5, d6] => { results := [.lit (.bool true)], args := [d1, d2, d3, d4, d5, d6] }
  | _ => none }
def fnMovedOnIsDepartingMinusNewcomerSpanRow : OpenClaim := { program := "qxb6001692a", sum := "eb782716f6123ea2943724559527f4611bb9658154c241a1716277b533ad7e43", func := "example.com/ringlet/ringlet/zzlaws_root_g2.FnMovedOnIsDepartingMinusNewcomerSpan", spec := "fnMovedOnIsDepartingMinusNewcomerSpan", inPlace := ["internal/bytealg.Compare"], named := ["encoding/binary.BigEndian"], apart := false }
def FnMovedOnIsDepartingMinusNewcomerSpanSaid : Prop := fnMovedOnIsDepartingMinusNewcomerSpanRow.holds Try.pinned (OpenSpec.ofChange fnMovedOnIsDepartingMinusNewcomerSpanSpec)

/-- ITS FALSE NEIGHBOUR: 'it returns false'. Refute it at one input. -/
def fnMovedOnIsDepartingMinusNewcomerSpanWrong : ChangeSpec := { name := "fnMovedOnIsDepartingMinusNewcomerSpan", fn := fun _ => fun
  | [d1, d2, d3, d4, d5, d6] => { results := [.lit (.bool false)], args := [d1, d2, d3, d4, d5, d6] }
  | _ => none }
def FnMovedOnIsDepartingMinusNewcomerSpanWrongFalsely : Prop := fnMovedOnIsDepartingMinusNewcomerSpanRow.holds Try.pinned (OpenSpec.ofChange fnMovedOnIsDepartingMinusNewcomerSpanWrong)

/-- 'zzlaws_root_g2.FnNextNodesNextThenBackReversed': WHATEVER THE INPUT: true; the input reads as it did. -/
def fnNextNodesNextThenBackReversedSpec : ChangeSpec := { name := "fnNextNodesNextThenBackReversed", fn := fun _ => fun
  | [d1, d2] => { results := [.lit (.bool true)], args := [d1, d2] }
  | _ => none }
def fnNextNodesNextThenBackReversedRow : OpenClaim := { program := "qxb6001692a", sum := "eb782716f6123ea2943724559527f4611bb9658154c241a1716277b533ad7e43", func := "example.com/ringlet/ringlet/zzlaws_root_g2.FnNextNodesNextThenBackReversed", spec := "fnNextNodesNextThenBackReversed", apart := false }
def FnNextNodesNextThenBackReversedSaid : Prop := fnNextNodesNextThenBackReversedRow.holds Try.pinned (OpenSpec.ofChange fnNextNodesNextThenBackReversedSpec)

/-- ITS FALSE NEIGHBOUR: 'it returns false'. Refute it at one input. -/
def fnNextNodesNextThenBackReversedWrong : ChangeSpec := { name := "fnNextNodesNextThenBackReversed", fn := fun _ => fun
  | [d1, d2] => { results := [.lit (.bool false)], args := [d1, d2] }
  | _ => none }
def FnNextNodesNextThenBackReversedWrongFalsely : Prop := fnNextNodesNextThenBackReversedRow.holds Try.pinned (OpenSpec.ofChange fnNextNodesNextThenBackReversedWrong)

end Rows
end Go.Proofs.Qxb6001692a
