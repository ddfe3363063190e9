import Derived.Test.Qxb6001692aBt
namespace Go.Proofs.Qxb6001692a
open Go.ChangeShapes Go.WideShapes Go.ChangeAt Go.RowKit

theorem between_any (xs us bs : List Int) (hx : Id20 xs) (ha : Id20 us) (hb0 : Id20 bs) (w : World) :
    Calls Try.prog 32 #[.agg (idc xs), .agg (idc us), .agg (idc bs)] w fun e w' => e = .returned (.bool (decide (dst (bv us) (bv xs) < dst (bv us) (bv bs)))) ∧ Below w.heap.size w w' := by
  have key : ((hd (bv xs) != hd (bv us)) = false ∨ ((hd (bv xs) != hd (bv us)) = true ∧ (hd (bv xs) != hd (bv bs)) = false) ∨ ((hd (bv xs) != hd (bv us)) = true ∧ (hd (bv xs) != hd (bv bs)) = true ∧ (hd (bv us) != hd (bv bs)) = false)) →
      Calls Try.prog 32 #[.agg (idc xs), .agg (idc us), .agg (idc bs)] w fun e w' => e = .returned (.bool (decide (dst (bv us) (bv xs) < dst (bv us) (bv bs)))) ∧ Below w.heap.size w w' := by
    intro k
    have sx : decide (sgn (bv xs) (bv bs) < 0) = decide (bv xs < bv bs) := by
      rcases sgn_cases (bv xs) (bv bs) with ⟨h, e⟩ | ⟨h, e⟩ | ⟨h, e⟩ <;> rw [e] <;> rw [Bool.eq_iff_iff, decide_eq_true_eq, decide_eq_true_eq] <;> omega
    rcases sgn_cases (bv us) (bv bs) with ⟨c, r1⟩ | ⟨c, r1⟩ | ⟨c, r1⟩
    · rw [← bet_lt hx.bounds ha.bounds hb0.bounds c]
      rcases sgn_cases (bv us) (bv xs) with ⟨d, r2⟩ | ⟨d, r2⟩ | ⟨d, r2⟩
      · rw [decide_eq_true d, Bool.true_and, ← sx]; exact between_lt xs us bs hx ha hb0 w k r1 r2
      · rw [decide_eq_false (by omega : ¬ bv us < bv xs), Bool.false_and]; exact between_lt1 xs us bs hx ha hb0 w k r1 r2
      · rw [decide_eq_false (by omega : ¬ bv us < bv xs), Bool.false_and]; exact between_lt0 xs us bs hx ha hb0 w k r1 r2
    · rw [← bet_gt hx.bounds ha.bounds hb0.bounds c]
      rcases sgn_cases (bv us) (bv xs) with ⟨d, r2⟩ | ⟨d, r2⟩ | ⟨d, r2⟩
      · rw [decide_eq_true d, Bool.true_or]; exact between_gt xs us bs hx ha hb0 w k r1 r2
      · rw [decide_eq_false (by omega : ¬ bv us < bv xs), Bool.false_or, ← sx]; exact between_gt1 xs us bs hx ha hb0 w k r1 r2
      · rw [decide_eq_false (by omega : ¬ bv us < bv xs), Bool.false_or, ← sx]; exact between_gt0 xs us bs hx ha hb0 w k r1 r2
    · have e1 : (!decide (bv xs = bv us)) = decide (dst (bv us) (bv xs) < dst (bv us) (bv bs)) := by
        rw [← c, ← bet_eq hx.bounds ha.bounds]; simp
      rw [← e1]; exact between_eq xs us bs hx ha hb0 w k r1
  by_cases k1 : hd (bv xs) = hd (bv us)
  · exact key (.inl (by simpa using k1))
  · by_cases k2 : hd (bv xs) = hd (bv bs)
    · exact key (.inr (.inl ⟨by simpa using k1, by simpa using k2⟩))
    · by_cases k3 : hd (bv us) = hd (bv bs)
      · exact key (.inr (.inr ⟨by simpa using k1, by simpa using k2, by simpa using k3⟩))
      · rw [← hb_heads hx.bounds ha.bounds hb0.bounds k1 k2 k3]
        exact between_heads xs us bs hx ha hb0 w (by simpa using k1) (by simpa using k2) (by simpa using k3)

set_option maxHeartbeats 1000000 in
theorem inRange_heads (xs us bs : List Int) (hx : Id20 xs) (ha : Id20 us) (hb0 : Id20 bs) (w : World)
    (k1 : (hd (bv xs) != hd (bv us)) = true) (k2 : (hd (bv xs) != hd (bv bs)) = true) (k3 : (hd (bv us) != hd (bv bs)) = true) :
    Calls Try.prog 23 #[.agg (idc xs), .agg (idc us), .agg (idc bs)] w fun e w' => e = .returned (.bool (hb (hd (bv xs)) (hd (bv us)) (hd (bv bs)))) ∧ Below w.heap.size w w' := by
  go_enter Try.func23, Try.ntmps23
  go_wp2_with (first
    | (refine wpl_box rfl _ rfl _ rfl (by assumption) ?_; intro g w' hs hb hl)
    | (go_at_call 30; refine (head_any _ xs _ ?_).mono ?_; (focus (repeat (first | assumption | (apply Has.via; focus assumption)))); rintro e w' ⟨rfl, hb'⟩)
    | (go_at_call 30; refine (head_any _ us _ ?_).mono ?_; (focus (repeat (first | assumption | (apply Has.via; focus assumption)))); rintro e w' ⟨rfl, hb'⟩)
    | (go_at_call 30; refine (head_any _ bs _ ?_).mono ?_; (focus (repeat (first | assumption | (apply Has.via; focus assumption)))); rintro e w' ⟨rfl, hb'⟩)
    | (go_at_call 31; refine (headBetween_any _ _ _ _).mono ?_; rintro e w' ⟨rfl, rfl⟩))
  go_ret
  refine ⟨rfl, ?_⟩
  repeat (first | assumption | (apply Below.via; focus assumption))

set_option maxHeartbeats 2000000 in
theorem inRange_eq (xs us bs : List Int) (hx : Id20 xs) (ha : Id20 us) (hb0 : Id20 bs) (w : World)
    (k : (hd (bv xs) != hd (bv us)) = false ∨ ((hd (bv xs) != hd (bv us)) = true ∧ (hd (bv xs) != hd (bv bs)) = false) ∨ ((hd (bv xs) != hd (bv us)) = true ∧ (hd (bv xs) != hd (bv bs)) = true ∧ (hd (bv us) != hd (bv bs)) = false))
    (h : decide (bv xs = bv bs) = true) :
    Calls Try.prog 23 #[.agg (idc xs), .agg (idc us), .agg (idc bs)] w fun e w' => e = .returned (.bool true) ∧ Below w.heap.size w w' := by
  rcases k with k1 | ⟨k1, k2⟩ | ⟨k1, k2, k3⟩
  all_goals
    go_enter Try.func23, Try.ntmps23
    go_wp2_with (first
      | (refine wpl_box rfl _ rfl _ rfl (by assumption) ?_; intro g w' hs hb hl)
      | (go_at_call 30; refine (head_any _ xs _ ?_).mono ?_; (focus (repeat (first | assumption | (apply Has.via; focus assumption)))); rintro e w' ⟨rfl, hb'⟩)
      | (go_at_call 30; refine (head_any _ us _ ?_).mono ?_; (focus (repeat (first | assumption | (apply Has.via; focus assumption)))); rintro e w' ⟨rfl, hb'⟩)
      | (go_at_call 30; refine (head_any _ bs _ ?_).mono ?_; (focus (repeat (first | assumption | (apply Has.via; focus assumption)))); rintro e w' ⟨rfl, hb'⟩)
      | (go_at_call 31; refine (headBetween_any _ _ _ _).mono ?_; rintro e w' ⟨rfl, rfl⟩)
      | (refine wpl_load26 rfl _ rfl _ rfl ?_ ?_ ?_; rotate_left; (focus ((repeat (first | assumption | (apply Has.via; focus assumption))); done)); simp only [Act.put, List.setIfInBounds_toArray, List.set_cons_zero, List.set_cons_succ])
      | (refine wpl_eql26 rfl _ _ _ rfl xs bs rfl rfl hx hb0 _ h ?_; simp only [Act.put, List.setIfInBounds_toArray, List.set_cons_zero, List.set_cons_succ]))
    go_ret
    refine ⟨rfl, ?_⟩
    repeat (first | assumption | (apply Below.via; focus assumption))

set_option maxHeartbeats 2000000 in
theorem inRange_ne (xs us bs : List Int) (hx : Id20 xs) (ha : Id20 us) (hb0 : Id20 bs) (w : World)
    (k : (hd (bv xs) != hd (bv us)) = false ∨ ((hd (bv xs) != hd (bv us)) = true ∧ (hd (bv xs) != hd (bv bs)) = false) ∨ ((hd (bv xs) != hd (bv us)) = true ∧ (hd (bv xs) != hd (bv bs)) = true ∧ (hd (bv us) != hd (bv bs)) = false))
    (h : decide (bv xs = bv bs) = false) :
    Calls Try.prog 23 #[.agg (idc xs), .agg (idc us), .agg (idc bs)] w fun e w' => e = .returned (.bool (decide (dst (bv us) (bv xs) < dst (bv us) (bv bs)))) ∧ Below w.heap.size w w' := by
  rcases k with k1 | ⟨k1, k2⟩ | ⟨k1, k2, k3⟩
  all_goals
    go_enter Try.func23, Try.ntmps23
    go_wp2_with (first
      | (refine wpl_box rfl _ rfl _ rfl (by assumption) ?_; intro g w' hs hb hl)
      | (go_at_call 30; refine (head_any _ xs _ ?_).mono ?_; (focus (repeat (first | assumption | (apply Has.via; focus assumption)))); rintro e w' ⟨rfl, hb'⟩)
      | (go_at_call 30; refine (head_any _ us _ ?_).mono ?_; (focus (repeat (first | assumption | (apply Has.via; focus assumption)))); rintro e w' ⟨rfl, hb'⟩)
      | (go_at_call 30; refine (head_any _ bs _ ?_).mono ?_; (focus (repeat (first | assumption | (apply Has.via; focus assumption)))); rintro e w' ⟨rfl, hb'⟩)
      | (go_at_call 31; refine (headBetween_any _ _ _ _).mono ?_; rintro e w' ⟨rfl, rfl⟩)
      | (refine wpl_load26 rfl _ rfl _ rfl ?_ ?_ ?_; rotate_left; (focus ((repeat (first | assumption | (apply Has.via; focus assumption))); done)); simp only [Act.put, List.setIfInBounds_toArray, List.set_cons_zero, List.set_cons_succ])
      | (refine wpl_eql26 rfl _ _ _ rfl xs bs rfl rfl hx hb0 _ h ?_; simp only [Act.put, List.setIfInBounds_toArray, List.set_cons_zero, List.set_cons_succ])
      | (refine wpl_load26g rfl _ rfl _ rfl ?_ ?_ ?_; rotate_left; (focus ((repeat (first | assumption | (apply Has.via; focus assumption))); done)); simp only [Act.put, List.setIfInBounds_toArray, List.set_cons_zero, List.set_cons_succ])
      | (go_at_call 32; refine (between_any xs us bs hx ha hb0 _).mono ?_; rintro e w' ⟨rfl, hb'⟩))
    go_ret
    refine ⟨rfl, ?_⟩
    repeat (first | assumption | (apply Below.via; focus assumption))

theorem inRange_any (xs us bs : List Int) (hx : Id20 xs) (ha : Id20 us) (hb0 : Id20 bs) (w : World) :
    Calls Try.prog 23 #[.agg (idc xs), .agg (idc us), .agg (idc bs)] w fun e w' => e = .returned (.bool (decide (dst (bv us) (bv xs) ≤ dst (bv us) (bv bs)))) ∧ Below w.heap.size w w' := by
  have key : ((hd (bv xs) != hd (bv us)) = false ∨ ((hd (bv xs) != hd (bv us)) = true ∧ (hd (bv xs) != hd (bv bs)) = false) ∨ ((hd (bv xs) != hd (bv us)) = true ∧ (hd (bv xs) != hd (bv bs)) = true ∧ (hd (bv us) != hd (bv bs)) = false)) →
      Calls Try.prog 23 #[.agg (idc xs), .agg (idc us), .agg (idc bs)] w fun e w' => e = .returned (.bool (decide (dst (bv us) (bv xs) ≤ dst (bv us) (bv bs)))) ∧ Below w.heap.size w w' := by
    intro k
    rw [← inr_eq hx.bounds ha.bounds hb0.bounds]
    by_cases h : bv xs = bv bs
    · rw [decide_eq_true h, Bool.true_or]; exact inRange_eq xs us bs hx ha hb0 w k (by simpa using h)
    · rw [decide_eq_false h, Bool.false_or]; exact inRange_ne xs us bs hx ha hb0 w k (by simpa using h)
  by_cases k1 : hd (bv xs) = hd (bv us)
  · exact key (.inl (by simpa using k1))
  · by_cases k2 : hd (bv xs) = hd (bv bs)
    · exact key (.inr (.inl ⟨by simpa using k1, by simpa using k2⟩))
    · by_cases k3 : hd (bv us) = hd (bv bs)
      · exact key (.inr (.inr ⟨by simpa using k1, by simpa using k2, by simpa using k3⟩))
      · rw [← inr_heads hx.bounds ha.bounds hb0.bounds k1 k2 k3]
        exact inRange_heads xs us bs hx ha hb0 w (by simpa using k1) (by simpa using k2) (by simpa using k3)

set_option maxHeartbeats 1000000 in
theorem zzInRange_any (xs us bs : List Int) (hx : Id20 xs) (ha : Id20 us) (hb0 : Id20 bs) (w : World) :
    Calls Try.prog 10 #[.agg (idc xs), .agg (idc us), .agg (idc bs)] w fun e w' => e = .returned (.bool (decide (dst (bv us) (bv xs) ≤ dst (bv us) (bv bs)))) ∧ Below w.heap.size w w' := by
  go_enter Try.func10, Try.ntmps10
  go_wp2_with (first
    | (refine wpl_box rfl _ rfl _ rfl (by assumption) ?_; intro g w' hs hb hl)
    | (refine wpl_load26 rfl _ rfl _ rfl ?_ ?_ ?_; rotate_left; (focus ((repeat (first | assumption | (apply Has.via; focus assumption))); done)); simp only [Act.put, List.setIfInBounds_toArray, List.set_cons_zero, List.set_cons_succ])
    | (go_at_call 23; refine (inRange_any xs us bs hx ha hb0 _).mono ?_; rintro e w' ⟨rfl, hb'⟩))
  go_ret
  refine ⟨rfl, ?_⟩
  repeat (first | assumption | (apply Below.via; focus assumption))
end Go.Proofs.Qxb6001692a
