import Derived.Test.Qxb6600689aZs
namespace Go.Proofs.Qxb6600689a
open Go.ChangeShapes Go.WideShapes Go.ChangeAt Go.RowKit
set_option linter.unusedVariables false

/-- What the law is told of a slice that came in. -/
def Came (w : World) (a : Option Addr) (zs : List Int) : Prop := (∀ i, i < zs.length → ∃ x, a = some x ∧ x.block < w.heap.size ∧ w.cell? (x.add i) = some (.int .i64 (zs.getD i 0))) ∧ (a = none → zs = []) ∧ zs.length ≤ 9223372036854775807
theorem Came.below {w w' : World} {a : Option Addr} {zs : List Int} (h : Came w a zs) (b : Below w.heap.size w w') : Came w' a zs :=
  ⟨fun i hi => by
    obtain ⟨x, e, hx, hc⟩ := h.1 i hi
    exact ⟨x, e, Nat.lt_of_lt_of_le hx b.size, (b.cell (p := x.add i) (by rw [Addr.add_block]; exact hx)).trans hc⟩, h.2⟩
set_option maxRecDepth 100000 in
set_option maxHeartbeats 2000000 in
theorem law_any (a b : Option Addr) (A B : List Int) (c d : Nat) (w : World) (ha : Came w a A) (hb : Came w b B) :
    Calls Try.prog 3 #[.slice a A.length c, .slice b B.length d] w fun e w' => e = .returned (.bool true) ∧ Below w.heap.size w w' := by
  have hmA := ha.2.2
  have hmB := hb.2.2
  by_cases hA : A.length ≤ 4096
  · by_cases hB : B.length ≤ 4096
    · have HED := Hid.mk' (ED_LC (qq A B) A.length B.length)
      have t1 : True := trivial
      have hw2 : ((ED (qq A B) A.length B.length : Int) == (A.length : Int) + (B.length : Int) - 2 * (LC (qq A B) A.length B.length : Int)) = true := by
        have := HED.out
        simp only [beq_iff_eq]; omega
      go_enter Try.func3, Try.ntmps3
      go_wp2_with (first
        | (go_at_call 6; refine (zb_any a b A.length B.length c d _ hmA hmB).mono ?_; rintro e w0 ⟨⟨z, rfl⟩, rfl⟩; cases z)
        | (go_at_call 7; have _t := t1; refine (clone_any a A c _ ha.1 ha.2.1 (by omega)).mono ?_; rintro e w1 ⟨p1, rfl, hb1, hin1⟩; clear t1 _t)
        | (go_at_call 7; refine (clone_any b B d _ (hb.below hb1).1 hb.2.1 (by omega)).mono ?_; rintro e w2 ⟨p2, rfl, hb2, hin2⟩; have hin1' := (hin1.below hb2).mono hb2.size)
        | (go_at_call 8; refine (lcs_any p1 p2 A B _ _ _ hin1' hin2 (by omega) (by omega)).mono ?_; rintro e w3 ⟨rfl, hb3⟩; have i1 := (hin1'.below hb3).mono hb3.size; have i2 := (hin2.below hb3).mono hb3.size; have hlc := LC_le (qq A B) A.length B.length)
        | (go_at_call 9; refine (zs_any p1 p2 A B _ _ _ i1 i2 (by omega) (by omega)).mono ?_; intro e w4 hP; have heq : (binOp .eql 26 (.slice none 0 0) (.slice none 0 0)).run Try.prog w4 = .ok (.bool true) w4 := (by simp only [binOp]; simp [run_equal_slice_nil w4 26 5 none 0 0 Try.underlying26]); rcases hP with ⟨hD, g, E, rfl, hb4, hblk, hln, hok⟩ | ⟨hD, rfl, hb4⟩ <;> (first | (have hw : decide ((A.length : Int) + (B.length : Int) - 2 * (LC (qq A B) A.length B.length : Int) ≤ 1000) = true := decide_eq_true (by have := HED.out; omega)) | (have hw : decide ((A.length : Int) + (B.length : Int) - 2 * (LC (qq A B) A.length B.length : Int) ≤ 1000) = false := decide_eq_false (by have := HED.out; omega))))
        | (go_at_call 10; refine (replay_any g _ p1 p2 E A B _ _ (ED (qq A B) A.length B.length) _ (fun i hi => hblk.y hi) (by omega) ((i1.below hb4).mono hb4.size) ((i2.below hb4).mono hb4.size) (by omega) (by omega) (by omega) hok).mono ?_; rintro e w5 ⟨rfl, hb5⟩))
      all_goals first
        | (go_ret; exact ⟨rfl, Below.refl _ _⟩)
        | (go_ret; exact ⟨by rw [← hw2]; rfl, hb1.trans ((hb2.mono hb1.size).trans ((hb3.mono (Nat.le_trans hb1.size hb2.size)).trans ((hb4.mono (Nat.le_trans hb1.size (Nat.le_trans hb2.size hb3.size))).trans (hb5.mono (Nat.le_trans hb1.size (Nat.le_trans hb2.size (Nat.le_trans hb3.size hb4.size)))))))⟩)
        | (go_ret; exact ⟨rfl, hb1.trans ((hb2.mono hb1.size).trans ((hb3.mono (Nat.le_trans hb1.size hb2.size)).trans (hb4.mono (Nat.le_trans hb1.size (Nat.le_trans hb2.size hb3.size)))))⟩)
    · have hB' : (4096 : Int) < (B.length : Int) := by omega
      have hA' : (A.length : Int) ≤ 4096 := by omega
      go_enter Try.func3, Try.ntmps3
      go_wp2_with (first
        | (go_at_call 6; refine (zb_any a b A.length B.length c d _ hmA hmB).mono ?_; rintro e w0 ⟨⟨z, rfl⟩, rfl⟩; cases z))
      all_goals (go_ret; exact ⟨rfl, Below.refl _ _⟩)
  · have hA' : (4096 : Int) < (A.length : Int) := by omega
    go_enter Try.func3, Try.ntmps3
    go_wp2_with (first
      | (go_at_call 6; refine (zb_any a b A.length B.length c d _ hmA hmB).mono ?_; rintro e w0 ⟨⟨z, rfl⟩, rfl⟩; cases z))
    all_goals (go_ret; exact ⟨rfl, Below.refl _ _⟩)
end Go.Proofs.Qxb6600689a
