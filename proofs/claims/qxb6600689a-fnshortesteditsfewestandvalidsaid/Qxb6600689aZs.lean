import Derived.Test.Qxb6600689aSe
namespace Go.Proofs.Qxb6600689a
open Go.ChangeShapes Go.WideShapes Go.ChangeAt Go.RowKit
set_option linter.unusedVariables false

/-- What ZZshortestEdits answers. -/
def ZsP (q : Nat → Nat → Bool) (n m : Nat) (w : World) (e : Ending) (w' : World) : Prop :=
  (ED q n m ≤ 1000 ∧ ∃ (g : Nat) (E : List Int), e = .returned (.tuple #[.slice (some ⟨g, 0, none⟩) E.length E.length, .bool true]) ∧ Below w.heap.size w w' ∧ Blk w' g (yv E) ∧ E.length ≤ n + m ∧ Ok q n m E 0 0 (ED q n m)) ∨
  (1000 < ED q n m ∧ e = .returned (.tuple #[.slice none 0 0, .bool false]) ∧ Below w.heap.size w w')
set_option maxRecDepth 100000 in
set_option maxHeartbeats 2000000 in
theorem zs_any (a b : Option Addr) (A B : List Int) (c d : Nat) (w : World) (ha : In w w.heap.size a A) (hb : In w w.heap.size b B) (hA : A.length ≤ 8192) (hB : B.length ≤ 8192) :
    Calls Try.prog 9 #[.slice a A.length c, .slice b B.length d] w fun e w' => ZsP (qq A B) A.length B.length w e w' := by
  go_enter Try.func9, Try.ntmps9
  go_wp2_with (first
    | (go_at_call 13; refine (se_any a b A B c d _ ha hb hA hB).mono ?_; intro e w1 hP; rcases hP with ⟨hD, g, c1, E, rfl, hb1, hlt, hcl, hln, hok⟩ | ⟨hD, rfl, hb1⟩)
    | (go_at_call 14; refine (eb_some g E c1 _ hlt hcl (by omega)).mono ?_; rintro e w2 ⟨g2, rfl, hb2, hblk⟩)
    | (go_at_call 14; refine (eb_nil _).mono ?_; rintro e w2 ⟨rfl, rfl⟩))
  · go_ret2
    exact .inl ⟨hD, g2, E, rfl, hb1.trans (hb2.mono hb1.size), hblk, hln, hok⟩
  · go_ret2
    exact .inr ⟨hD, rfl, hb1⟩
end Go.Proofs.Qxb6600689a
