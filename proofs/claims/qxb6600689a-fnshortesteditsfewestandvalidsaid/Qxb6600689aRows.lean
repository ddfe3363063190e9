/-
  No cell of these rows narrows 'for every input' (looked for: loops, veiled, ifaces, maps, wideKeys, modest, calm, conditions, laid).
  DERIVED. THE GIVEN ROWS OF THIS SEAT. 3 by the template 'for every input the law returns true; each argument reads behind the call as it read before'; 0 by the template 'total and deterministic' (their statements: Qxb6600689aTotals.lean).
  GIVEN WITH THE SEED: the statements are not yours to turn. If you find one false, say at which input.
  Laid BY PROGRAM, IN A SANDBOX (cutbox-rows.mjs): the forced cells as the released guide's own fill.sh prints them over the translation 5d3aad9906f0b0b5… (all of the seat's roots in one cut). By AI agents, Wed Nov 11 2026. No macro, syntax, notation, axiom, sorry.
-/
import Derived.Test.Qxb6600689aChecked
import GoSem.Claim
import GoSem.ClaimJoined
import GoSem.ClaimMapViews
import Derived.JoinedTies
import Derived.KernelRfl
namespace Go.Proofs.Qxb6600689a
/- THE CELL 'sum', in the pinned program and in every row, IS THE sha256 OF THE DUMP (.gsa) THAT Qxb6600689aProg.lean LOADS. Nothing in Lean hashes anything: it is a label: what it is worth is what the hold of that sum in a sandbox is worth. -/
noncomputable def Try.pinned : Pinned := { name := "qxb6600689a", sum := "5d3aad9906f0b0b582e8abe957173e09c4d6e128d16da726ba9e4e2721dae506", checked := Try.checked }
namespace Rows
def none {H : Type} : Left H := { results := [], args := [] }

/-- 'zzlaws_diff_b1.FnShortestEditsFewestAndValid': WHATEVER THE INPUT: true; the input reads as it did. -/
def fnShortestEditsFewestAndValidSpec : ChangeSpec := { name := "fnShortestEditsFewestAndValid", fn := fun _ => fun
  | [d1, d2] => { results := [.lit (.bool true)], args := [d1, d2] }
  | _ => none }
def fnShortestEditsFewestAndValidRow : OpenClaim := { program := "qxb6600689a", sum := "5d3aad9906f0b0b582e8abe957173e09c4d6e128d16da726ba9e4e2721dae506", func := "example.com/canonry/canonry/zzlaws_diff_b1.FnShortestEditsFewestAndValid", spec := "fnShortestEditsFewestAndValid", unfollowed := true, recurses := true, apart := false }
def FnShortestEditsFewestAndValidSaid : Prop := fnShortestEditsFewestAndValidRow.holds Try.pinned (OpenSpec.ofChange fnShortestEditsFewestAndValidSpec)

/-- ITS FALSE NEIGHBOUR: 'it returns false'. Refute it at one input. -/
def fnShortestEditsFewestAndValidWrong : ChangeSpec := { name := "fnShortestEditsFewestAndValid", fn := fun _ => fun
  | [d1, d2] => { results := [.lit (.bool false)], args := [d1, d2] }
  | _ => none }
def FnShortestEditsFewestAndValidWrongFalsely : Prop := fnShortestEditsFewestAndValidRow.holds Try.pinned (OpenSpec.ofChange fnShortestEditsFewestAndValidWrong)

/-- 'zzlaws_diff_b1.FnShortestEditsRemovesBeforeAdds': WHATEVER THE INPUT: true; the input reads as it did. -/
def fnShortestEditsRemovesBeforeAddsSpec : ChangeSpec := { name := "fnShortestEditsRemovesBeforeAdds", fn := fun _ => fun
  | [d1, d2] => { results := [.lit (.bool true)], args := [d1, d2] }
  | _ => none }
def fnShortestEditsRemovesBeforeAddsRow : OpenClaim := { program := "qxb6600689a", sum := "5d3aad9906f0b0b582e8abe957173e09c4d6e128d16da726ba9e4e2721dae506", func := "example.com/canonry/canonry/zzlaws_diff_b1.FnShortestEditsRemovesBeforeAdds", spec := "fnShortestEditsRemovesBeforeAdds", unfollowed := true, recurses := true, apart := false }
def FnShortestEditsRemovesBeforeAddsSaid : Prop := fnShortestEditsRemovesBeforeAddsRow.holds Try.pinned (OpenSpec.ofChange fnShortestEditsRemovesBeforeAddsSpec)

/-- ITS FALSE NEIGHBOUR: 'it returns false'. Refute it at one input. -/
def fnShortestEditsRemovesBeforeAddsWrong : ChangeSpec := { name := "fnShortestEditsRemovesBeforeAdds", fn := fun _ => fun
  | [d1, d2] => { results := [.lit (.bool false)], args := [d1, d2] }
  | _ => none }
def FnShortestEditsRemovesBeforeAddsWrongFalsely : Prop := fnShortestEditsRemovesBeforeAddsRow.holds Try.pinned (OpenSpec.ofChange fnShortestEditsRemovesBeforeAddsWrong)

/-- 'zzlaws_diff_b1.FnShortestEditsSeesOnlyEquality': WHATEVER THE INPUT: true; the input reads as it did. -/
def fnShortestEditsSeesOnlyEqualitySpec : ChangeSpec := { name := "fnShortestEditsSeesOnlyEquality", fn := fun _ => fun
  | [d1, d2, d3] => { results := [.lit (.bool true)], args := [d1, d2, d3] }
  | _ => none }
def fnShortestEditsSeesOnlyEqualityRow : OpenClaim := { program := "qxb6600689a", sum := "5d3aad9906f0b0b582e8abe957173e09c4d6e128d16da726ba9e4e2721dae506", func := "example.com/canonry/canonry/zzlaws_diff_b1.FnShortestEditsSeesOnlyEquality", spec := "fnShortestEditsSeesOnlyEquality", unfollowed := true, recurses := true, apart := false }
def FnShortestEditsSeesOnlyEqualitySaid : Prop := fnShortestEditsSeesOnlyEqualityRow.holds Try.pinned (OpenSpec.ofChange fnShortestEditsSeesOnlyEqualitySpec)

/-- ITS FALSE NEIGHBOUR: 'it returns false'. Refute it at one input. -/
def fnShortestEditsSeesOnlyEqualityWrong : ChangeSpec := { name := "fnShortestEditsSeesOnlyEquality", fn := fun _ => fun
  | [d1, d2, d3] => { results := [.lit (.bool false)], args := [d1, d2, d3] }
  | _ => none }
def FnShortestEditsSeesOnlyEqualityWrongFalsely : Prop := fnShortestEditsSeesOnlyEqualityRow.holds Try.pinned (OpenSpec.ofChange fnShortestEditsSeesOnlyEqualityWrong)

end Rows
end Go.Proofs.Qxb6600689a
