import Derived.Test.Qxb6001692aEq
import Derived.Test.Qxb6001692aHb
namespace Go.Proofs.Qxb6001692a
open Go.ChangeShapes Go.WideShapes Go.ChangeAt Go.RowKit

set_option maxHeartbeats 1000000 in
theorem between_heads (xs us bs : List Int) (hx : Id20 xs) (ha : Id20 us) (hb0 : Id20 bs) (w : World)
    (k1 : (hd (bv xs) != hd (bv us)) = true) (k2 : (hd (bv xs) != hd (bv bs)) = true) (k3 : (hd (bv us) != hd (bv bs)) = true) :
    Calls Try.prog 32 #[.agg (idc xs), .agg (idc us), .agg (idc bs)] w fun e w' => e = .returned (.bool (hb (hd (bv xs)) (hd (bv us)) (hd (bv bs)))) ∧ Below w.heap.size w w' := by
  go_enter Try.func32, Try.ntmps32
  go_wp2_with (first
    | (refine wpl_box rfl _ rfl _ rfl (by assumption) ?_; intro g w' hs hb hl)
    | (go_at_call 30; refine (head_any _ xs _ ?_).mono ?_; (focus (repeat (first | assumption | (apply Has.via; focus assumption)))); rintro e w' ⟨rfl, hb'⟩)
    | (go_at_call 30; refine (head_any _ us _ ?_).mono ?_; (focus (repeat (first | assumption | (apply Has.via; focus assumption)))); rintro e w' ⟨rfl, hb'⟩)
    | (go_at_call 30; refine (head_any _ bs _ ?_).mono ?_; (focus (repeat (first | assumption | (apply Has.via; focus assumption)))); rintro e w' ⟨rfl, hb'⟩)
    | (go_at_call 31; refine (headBetween_any _ _ _ _).mono ?_; rintro e w' ⟨rfl, rfl⟩))
  go_ret
  refine ⟨rfl, ?_⟩
  repeat (first | assumption | (apply Below.via; focus assumption))

set_option maxHeartbeats 2000000 in
theorem between_lt (xs us bs : List Int) (hx : Id20 xs) (ha : Id20 us) (hb0 : Id20 bs) (w : World)
    (k : (hd (bv xs) != hd (bv us)) = false ∨ ((hd (bv xs) != hd (bv us)) = true ∧ (hd (bv xs) != hd (bv bs)) = false) ∨ ((hd (bv xs) != hd (bv us)) = true ∧ (hd (bv xs) != hd (bv bs)) = true ∧ (hd (bv us) != hd (bv bs)) = false))
    (r1 : sgn (bv us) (bv bs) = -1) (r2 : sgn (bv us) (bv xs) = -1) :
    Calls Try.prog 32 #[.agg (idc xs), .agg (idc us), .agg (idc bs)] w fun e w' => e = .returned (.bool (decide (sgn (bv xs) (bv bs) < 0))) ∧ Below w.heap.size w w' := by
  rcases k with k1 | ⟨k1, k2⟩ | ⟨k1, k2, k3⟩
  all_goals
    go_enter Try.func32, Try.ntmps32
    go_wp2_with (first
      | (refine wpl_box rfl _ rfl _ rfl (by assumption) ?_; intro g w' hs hb hl)
      | (go_at_call 30; refine (head_any _ xs _ ?_).mono ?_; (focus (repeat (first | assumption | (apply Has.via; focus assumption)))); rintro e w' ⟨rfl, hb'⟩)
      | (go_at_call 30; refine (head_any _ us _ ?_).mono ?_; (focus (repeat (first | assumption | (apply Has.via; focus assumption)))); rintro e w' ⟨rfl, hb'⟩)
      | (go_at_call 30; refine (head_any _ bs _ ?_).mono ?_; (focus (repeat (first | assumption | (apply Has.via; focus assumption)))); rintro e w' ⟨rfl, hb'⟩)
      | (go_at_call 31; refine (headBetween_any _ _ _ _).mono ?_; rintro e w' ⟨rfl, rfl⟩))
  all_goals
    go_quiet (first
      | (go_at_call 36; refine Calls.quiet_of_same (bytesCompare_any _ _ _ _ us bs _ ?_ ?_); (focus (refine Has.drewN ?_ _; repeat (first | assumption | (apply Has.via; focus assumption)))); (focus (refine Has.drewN ?_ _; repeat (first | assumption | (apply Has.via; focus assumption))))))
    have hbq : Below w'.heap.size w' (w'.drewN nq) := Below.drewN' (Below.refl _ _) _
    generalize w'.drewN nq = wq at hbq ⊢
    go_wp2
    go_quiet (first
      | (go_at_call 36; refine Calls.quiet_of_same (bytesCompare_any _ _ _ _ us xs _ ?_ ?_); (focus (refine Has.drewN ?_ _; repeat (first | assumption | (apply Has.via; focus assumption)))); (focus (refine Has.drewN ?_ _; repeat (first | assumption | (apply Has.via; focus assumption)))))
      | (go_at_call 36; refine Calls.quiet_of_same (bytesCompare_any _ _ _ _ xs bs _ ?_ ?_); (focus (refine Has.drewN ?_ _; repeat (first | assumption | (apply Has.via; focus assumption)))); (focus (refine Has.drewN ?_ _; repeat (first | assumption | (apply Has.via; focus assumption))))))
    go_wp2
    go_ret
    refine ⟨rfl, ?_⟩
    refine Below.drewN' ?_ _
    repeat (first | assumption | (apply Below.via; focus assumption))

set_option maxHeartbeats 2000000 in
theorem between_lt0 (xs us bs : List Int) (hx : Id20 xs) (ha : Id20 us) (hb0 : Id20 bs) (w : World)
    (k : (hd (bv xs) != hd (bv us)) = false ∨ ((hd (bv xs) != hd (bv us)) = true ∧ (hd (bv xs) != hd (bv bs)) = false) ∨ ((hd (bv xs) != hd (bv us)) = true ∧ (hd (bv xs) != hd (bv bs)) = true ∧ (hd (bv us) != hd (bv bs)) = false))
    (r1 : sgn (bv us) (bv bs) = -1) (r2 : sgn (bv us) (bv xs) = 0) :
    Calls Try.prog 32 #[.agg (idc xs), .agg (idc us), .agg (idc bs)] w fun e w' => e = .returned (.bool false) ∧ Below w.heap.size w w' := by
  rcases k with k1 | ⟨k1, k2⟩ | ⟨k1, k2, k3⟩
  all_goals
    go_enter Try.func32, Try.ntmps32
    go_wp2_with (first
      | (refine wpl_box rfl _ rfl _ rfl (by assumption) ?_; intro g w' hs hb hl)
      | (go_at_call 30; refine (head_any _ xs _ ?_).mono ?_; (focus (repeat (first | assumption | (apply Has.via; focus assumption)))); rintro e w' ⟨rfl, hb'⟩)
      | (go_at_call 30; refine (head_any _ us _ ?_).mono ?_; (focus (repeat (first | assumption | (apply Has.via; focus assumption)))); rintro e w' ⟨rfl, hb'⟩)
      | (go_at_call 30; refine (head_any _ bs _ ?_).mono ?_; (focus (repeat (first | assumption | (apply Has.via; focus assumption)))); rintro e w' ⟨rfl, hb'⟩)
      | (go_at_call 31; refine (headBetween_any _ _ _ _).mono ?_; rintro e w' ⟨rfl, rfl⟩))
  all_goals
    go_quiet (first
      | (go_at_call 36; refine Calls.quiet_of_same (bytesCompare_any _ _ _ _ us bs _ ?_ ?_); (focus (refine Has.drewN ?_ _; repeat (first | assumption | (apply Has.via; focus assumption)))); (focus (refine Has.drewN ?_ _; repeat (first | assumption | (apply Has.via; focus assumption))))))
    have hbq : Below w'.heap.size w' (w'.drewN nq) := Below.drewN' (Below.refl _ _) _
    generalize w'.drewN nq = wq at hbq ⊢
    go_wp2
    go_quiet (first
      | (go_at_call 36; refine Calls.quiet_of_same (bytesCompare_any _ _ _ _ us xs _ ?_ ?_); (focus (refine Has.drewN ?_ _; repeat (first | assumption | (apply Has.via; focus assumption)))); (focus (refine Has.drewN ?_ _; repeat (first | assumption | (apply Has.via; focus assumption)))))
      | (go_at_call 36; refine Calls.quiet_of_same (bytesCompare_any _ _ _ _ xs bs _ ?_ ?_); (focus (refine Has.drewN ?_ _; repeat (first | assumption | (apply Has.via; focus assumption)))); (focus (refine Has.drewN ?_ _; repeat (first | assumption | (apply Has.via; focus assumption))))))
    go_wp2
    go_ret
    refine ⟨rfl, ?_⟩
    refine Below.drewN' ?_ _
    repeat (first | assumption | (apply Below.via; focus assumption))

set_option maxHeartbeats 2000000 in
theorem between_lt1 (xs us bs : List Int) (hx : Id20 xs) (ha : Id20 us) (hb0 : Id20 bs) (w : World)
    (k : (hd (bv xs) != hd (bv us)) = false ∨ ((hd (bv xs) != hd (bv us)) = true ∧ (hd (bv xs) != hd (bv bs)) = false) ∨ ((hd (bv xs) != hd (bv us)) = true ∧ (hd (bv xs) != hd (bv bs)) = true ∧ (hd (bv us) != hd (bv bs)) = false))
    (r1 : sgn (bv us) (bv bs) = -1) (r2 : sgn (bv us) (bv xs) = 1) :
    Calls Try.prog 32 #[.agg (idc xs), .agg (idc us), .agg (idc bs)] w fun e w' => e = .returned (.bool false) ∧ Below w.heap.size w w' := by
  rcases k with k1 | ⟨k1, k2⟩ | ⟨k1, k2, k3⟩
  all_goals
    go_enter Try.func32, Try.ntmps32
    go_wp2_with (first
      | (refine wpl_box rfl _ rfl _ rfl (by assumption) ?_; intro g w' hs hb hl)
      | (go_at_call 30; refine (head_any _ xs _ ?_).mono ?_; (focus (repeat (first | assumption | (apply Has.via; focus assumption)))); rintro e w' ⟨rfl, hb'⟩)
      | (go_at_call 30; refine (head_any _ us _ ?_).mono ?_; (focus (repeat (first | assumption | (apply Has.via; focus assumption)))); rintro e w' ⟨rfl, hb'⟩)
      | (go_at_call 30; refine (head_any _ bs _ ?_).mono ?_; (focus (repeat (first | assumption | (apply Has.via; focus assumption)))); rintro e w' ⟨rfl, hb'⟩)
      | (go_at_call 31; refine (headBetween_any _ _ _ _).mono ?_; rintro e w' ⟨rfl, rfl⟩))
  all_goals
    go_quiet (first
      | (go_at_call 36; refine Calls.quiet_of_same (bytesCompare_any _ _ _ _ us bs _ ?_ ?_); (focus (refine Has.drewN ?_ _; repeat (first | assumption | (apply Has.via; focus assumption)))); (focus (refine Has.drewN ?_ _; repeat (first | assumption | (apply Has.via; focus assumption))))))
    have hbq : Below w'.heap.size w' (w'.drewN nq) := Below.drewN' (Below.refl _ _) _
    generalize w'.drewN nq = wq at hbq ⊢
    go_wp2
    go_quiet (first
      | (go_at_call 36; refine Calls.quiet_of_same (bytesCompare_any _ _ _ _ us xs _ ?_ ?_); (focus (refine Has.drewN ?_ _; repeat (first | assumption | (apply Has.via; focus assumption)))); (focus (refine Has.drewN ?_ _; repeat (first | assumption | (apply Has.via; focus assumption)))))
      | (go_at_call 36; refine Calls.quiet_of_same (bytesCompare_any _ _ _ _ xs bs _ ?_ ?_); (focus (refine Has.drewN ?_ _; repeat (first | assumption | (apply Has.via; focus assumption)))); (focus (refine Has.drewN ?_ _; repeat (first | assumption | (apply Has.via; focus assumption))))))
    go_wp2
    go_ret
    refine ⟨rfl, ?_⟩
    refine Below.drewN' ?_ _
    repeat (first | assumption | (apply Below.via; focus assumption))

set_option maxHeartbeats 2000000 in
theorem between_gt (xs us bs : List Int) (hx : Id20 xs) (ha : Id20 us) (hb0 : Id20 bs) (w : World)
    (k : (hd (bv xs) != hd (bv us)) = false ∨ ((hd (bv xs) != hd (bv us)) = true ∧ (hd (bv xs) != hd (bv bs)) = false) ∨ ((hd (bv xs) != hd (bv us)) = true ∧ (hd (bv xs) != hd (bv bs)) = true ∧ (hd (bv us) != hd (bv bs)) = false))
    (r1 : sgn (bv us) (bv bs) = 1) (r2 : sgn (bv us) (bv xs) = -1) :
    Calls Try.prog 32 #[.agg (idc xs), .agg (idc us), .agg (idc bs)] w fun e w' => e = .returned (.bool true) ∧ Below w.heap.size w w' := by
  rcases k with k1 | ⟨k1, k2⟩ | ⟨k1, k2, k3⟩
  all_goals
    go_enter Try.func32, Try.ntmps32
    go_wp2_with (first
      | (refine wpl_box rfl _ rfl _ rfl (by assumption) ?_; intro g w' hs hb hl)
      | (go_at_call 30; refine (head_any _ xs _ ?_).mono ?_; (focus (repeat (first | assumption | (apply Has.via; focus assumption)))); rintro e w' ⟨rfl, hb'⟩)
      | (go_at_call 30; refine (head_any _ us _ ?_).mono ?_; (focus (repeat (first | assumption | (apply Has.via; focus assumption)))); rintro e w' ⟨rfl, hb'⟩)
      | (go_at_call 30; refine (head_any _ bs _ ?_).mono ?_; (focus (repeat (first | assumption | (apply Has.via; focus assumption)))); rintro e w' ⟨rfl, hb'⟩)
      | (go_at_call 31; refine (headBetween_any _ _ _ _).mono ?_; rintro e w' ⟨rfl, rfl⟩))
  all_goals
    go_quiet (first
      | (go_at_call 36; refine Calls.quiet_of_same (bytesCompare_any _ _ _ _ us bs _ ?_ ?_); (focus (refine Has.drewN ?_ _; repeat (first | assumption | (apply Has.via; focus assumption)))); (focus (refine Has.drewN ?_ _; repeat (first | assumption | (apply Has.via; focus assumption))))))
    have hbq : Below w'.heap.size w' (w'.drewN nq) := Below.drewN' (Below.refl _ _) _
    generalize w'.drewN nq = wq at hbq ⊢
    go_wp2
    go_quiet (first
      | (go_at_call 36; refine Calls.quiet_of_same (bytesCompare_any _ _ _ _ us xs _ ?_ ?_); (focus (refine Has.drewN ?_ _; repeat (first | assumption | (apply Has.via; focus assumption)))); (focus (refine Has.drewN ?_ _; repeat (first | assumption | (apply Has.via; focus assumption)))))
      | (go_at_call 36; refine Calls.quiet_of_same (bytesCompare_any _ _ _ _ xs bs _ ?_ ?_); (focus (refine Has.drewN ?_ _; repeat (first | assumption | (apply Has.via; focus assumption)))); (focus (refine Has.drewN ?_ _; repeat (first | assumption | (apply Has.via; focus assumption))))))
    go_wp2
    go_ret
    refine ⟨rfl, ?_⟩
    refine Below.drewN' ?_ _
    repeat (first | assumption | (apply Below.via; focus assumption))

set_option maxHeartbeats 2000000 in
theorem between_gt0 (xs us bs : List Int) (hx : Id20 xs) (ha : Id20 us) (hb0 : Id20 bs) (w : World)
    (k : (hd (bv xs) != hd (bv us)) = false ∨ ((hd (bv xs) != hd (bv us)) = true ∧ (hd (bv xs) != hd (bv bs)) = false) ∨ ((hd (bv xs) != hd (bv us)) = true ∧ (hd (bv xs) != hd (bv bs)) = true ∧ (hd (bv us) != hd (bv bs)) = false))
    (r1 : sgn (bv us) (bv bs) = 1) (r2 : sgn (bv us) (bv xs) = 0) :
    Calls Try.prog 32 #[.agg (idc xs), .agg (idc us), .agg (idc bs)] w fun e w' => e = .returned (.bool (decide (sgn (bv xs) (bv bs) < 0))) ∧ Below w.heap.size w w' := by
  rcases k with k1 | ⟨k1, k2⟩ | ⟨k1, k2, k3⟩
  all_goals
    go_enter Try.func32, Try.ntmps32
    go_wp2_with (first
      | (refine wpl_box rfl _ rfl _ rfl (by assumption) ?_; intro g w' hs hb hl)
      | (go_at_call 30; refine (head_any _ xs _ ?_).mono ?_; (focus (repeat (first | assumption | (apply Has.via; focus assumption)))); rintro e w' ⟨rfl, hb'⟩)
      | (go_at_call 30; refine (head_any _ us _ ?_).mono ?_; (focus (repeat (first | assumption | (apply Has.via; focus assumption)))); rintro e w' ⟨rfl, hb'⟩)
      | (go_at_call 30; refine (head_any _ bs _ ?_).mono ?_; (focus (repeat (first | assumption | (apply Has.via; focus assumption)))); rintro e w' ⟨rfl, hb'⟩)
      | (go_at_call 31; refine (headBetween_any _ _ _ _).mono ?_; rintro e w' ⟨rfl, rfl⟩))
  all_goals
    go_quiet (first
      | (go_at_call 36; refine Calls.quiet_of_same (bytesCompare_any _ _ _ _ us bs _ ?_ ?_); (focus (refine Has.drewN ?_ _; repeat (first | assumption | (apply Has.via; focus assumption)))); (focus (refine Has.drewN ?_ _; repeat (first | assumption | (apply Has.via; focus assumption))))))
    have hbq : Below w'.heap.size w' (w'.drewN nq) := Below.drewN' (Below.refl _ _) _
    generalize w'.drewN nq = wq at hbq ⊢
    go_wp2
    go_quiet (first
      | (go_at_call 36; refine Calls.quiet_of_same (bytesCompare_any _ _ _ _ us xs _ ?_ ?_); (focus (refine Has.drewN ?_ _; repeat (first | assumption | (apply Has.via; focus assumption)))); (focus (refine Has.drewN ?_ _; repeat (first | assumption | (apply Has.via; focus assumption)))))
      | (go_at_call 36; refine Calls.quiet_of_same (bytesCompare_any _ _ _ _ xs bs _ ?_ ?_); (focus (refine Has.drewN ?_ _; repeat (first | assumption | (apply Has.via; focus assumption)))); (focus (refine Has.drewN ?_ _; repeat (first | assumption | (apply Has.via; focus assumption))))))
    go_wp2
    go_ret
    refine ⟨rfl, ?_⟩
    refine Below.drewN' ?_ _
    repeat (first | assumption | (apply Below.via; focus assumption))

set_option maxHeartbeats 2000000 in
theorem between_gt1 (xs us bs : List Int) (hx : Id20 xs) (ha : Id20 us) (hb0 : Id20 bs) (w : World)
    (k : (hd (bv xs) != hd (bv us)) = false ∨ ((hd (bv xs) != hd (bv us)) = true ∧ (hd (bv xs) != hd (bv bs)) = false) ∨ ((hd (bv xs) != hd (bv us)) = true ∧ (hd (bv xs) != hd (bv bs)) = true ∧ (hd (bv us) != hd (bv bs)) = false))
    (r1 : sgn (bv us) (bv bs) = 1) (r2 : sgn (bv us) (bv xs) = 1) :
    Calls Try.prog 32 #[.agg (idc xs), .agg (idc us), .agg (idc bs)] w fun e w' => e = .returned (.bool (decide (sgn (bv xs) (bv bs) < 0))) ∧ Below w.heap.size w w' := by
  rcases k with k1 | ⟨k1, k2⟩ | ⟨k1, k2, k3⟩
  all_goals
    go_enter Try.func32, Try.ntmps32
    go_wp2_with (first
      | (refine wpl_box rfl _ rfl _ rfl (by assumption) ?_; intro g w' hs hb hl)
      | (go_at_call 30; refine (head_any _ xs _ ?_).mono ?_; (focus (repeat (first | assumption | (apply Has.via; focus assumption)))); rintro e w' ⟨rfl, hb'⟩)
      | (go_at_call 30; refine (head_any _ us _ ?_).mono ?_; (focus (repeat (first | assumption | (apply Has.via; focus assumption)))); rintro e w' ⟨rfl, hb'⟩)
      | (go_at_call 30; refine (head_any _ bs _ ?_).mono ?_; (focus (repeat (first | assumption | (apply Has.via; focus assumption)))); rintro e w' ⟨rfl, hb'⟩)
      | (go_at_call 31; refine (headBetween_any _ _ _ _).mono ?_; rintro e w' ⟨rfl, rfl⟩))
  all_goals
    go_quiet (first
      | (go_at_call 36; refine Calls.quiet_of_same (bytesCompare_any _ _ _ _ us bs _ ?_ ?_); (focus (refine Has.drewN ?_ _; repeat (first | assumption | (apply Has.via; focus assumption)))); (focus (refine Has.drewN ?_ _; repeat (first | assumption | (apply Has.via; focus assumption))))))
    have hbq : Below w'.heap.size w' (w'.drewN nq) := Below.drewN' (Below.refl _ _) _
    generalize w'.drewN nq = wq at hbq ⊢
    go_wp2
    go_quiet (first
      | (go_at_call 36; refine Calls.quiet_of_same (bytesCompare_any _ _ _ _ us xs _ ?_ ?_); (focus (refine Has.drewN ?_ _; repeat (first | assumption | (apply Has.via; focus assumption)))); (focus (refine Has.drewN ?_ _; repeat (first | assumption | (apply Has.via; focus assumption)))))
      | (go_at_call 36; refine Calls.quiet_of_same (bytesCompare_any _ _ _ _ xs bs _ ?_ ?_); (focus (refine Has.drewN ?_ _; repeat (first | assumption | (apply Has.via; focus assumption)))); (focus (refine Has.drewN ?_ _; repeat (first | assumption | (apply Has.via; focus assumption))))))
    go_wp2
    go_ret
    refine ⟨rfl, ?_⟩
    refine Below.drewN' ?_ _
    repeat (first | assumption | (apply Below.via; focus assumption))

set_option maxHeartbeats 2000000 in
theorem between_eq (xs us bs : List Int) (hx : Id20 xs) (ha : Id20 us) (hb0 : Id20 bs) (w : World)
    (k : (hd (bv xs) != hd (bv us)) = false ∨ ((hd (bv xs) != hd (bv us)) = true ∧ (hd (bv xs) != hd (bv bs)) = false) ∨ ((hd (bv xs) != hd (bv us)) = true ∧ (hd (bv xs) != hd (bv bs)) = true ∧ (hd (bv us) != hd (bv bs)) = false))
    (r1 : sgn (bv us) (bv bs) = 0) :
    Calls Try.prog 32 #[.agg (idc xs), .agg (idc us), .agg (idc bs)] w fun e w' => e = .returned (.bool (!decide (bv xs = bv us))) ∧ Below w.heap.size w w' := by
  rcases k with k1 | ⟨k1, k2⟩ | ⟨k1, k2, k3⟩
  all_goals
    go_enter Try.func32, Try.ntmps32
    go_wp2_with (first
      | (refine wpl_box rfl _ rfl _ rfl (by assumption) ?_; intro g w' hs hb hl)
      | (go_at_call 30; refine (head_any _ xs _ ?_).mono ?_; (focus (repeat (first | assumption | (apply Has.via; focus assumption)))); rintro e w' ⟨rfl, hb'⟩)
      | (go_at_call 30; refine (head_any _ us _ ?_).mono ?_; (focus (repeat (first | assumption | (apply Has.via; focus assumption)))); rintro e w' ⟨rfl, hb'⟩)
      | (go_at_call 30; refine (head_any _ bs _ ?_).mono ?_; (focus (repeat (first | assumption | (apply Has.via; focus assumption)))); rintro e w' ⟨rfl, hb'⟩)
      | (go_at_call 31; refine (headBetween_any _ _ _ _).mono ?_; rintro e w' ⟨rfl, rfl⟩))
  all_goals
    go_quiet (first
      | (go_at_call 36; refine Calls.quiet_of_same (bytesCompare_any _ _ _ _ us bs _ ?_ ?_); (focus (refine Has.drewN ?_ _; repeat (first | assumption | (apply Has.via; focus assumption)))); (focus (refine Has.drewN ?_ _; repeat (first | assumption | (apply Has.via; focus assumption))))))
    have hbq : Below w'.heap.size w' (w'.drewN nq) := Below.drewN' (Below.refl _ _) _
    generalize w'.drewN nq = wq at hbq ⊢
    go_wp2_with (first
      | (refine wpl_load26 rfl _ rfl _ rfl ?_ ?_ ?_; rotate_left; (focus ((repeat (first | assumption | (apply Has.via; focus assumption))); done)); simp only [Act.put, List.setIfInBounds_toArray, List.set_cons_zero, List.set_cons_succ])
      | (refine wpl_neq26 rfl _ _ _ rfl xs us rfl rfl hx ha _ rfl ?_; simp only [Act.put, List.setIfInBounds_toArray, List.set_cons_zero, List.set_cons_succ]))
    go_ret
    refine ⟨rfl, ?_⟩
    repeat (first | assumption | (apply Below.via; focus assumption))

end Go.Proofs.Qxb6001692a
