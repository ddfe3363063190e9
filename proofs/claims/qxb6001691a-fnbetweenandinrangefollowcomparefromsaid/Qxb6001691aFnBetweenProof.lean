import Derived.Test.Qxb6001691aCf
import Derived.Test.Qxb6001691aReg
import Derived.Test.Qxb6001691aOpen
namespace Go.Proofs.Qxb6001691a.fnBetween
open Go.ChangeShapes Go.WideShapes Go.ChangeAt Go.RowKit
set_option linter.unusedVariables false

theorem inr_lit (xs us bs : List Int) (hx : Id20 xs) (ha : Id20 us) (hb0 : Id20 bs) (b : Bool) (h : decide (dst (bv us) (bv xs) ≤ dst (bv us) (bv bs)) = b) (w : World) :
    Calls Try.prog 13 #[.agg (idc xs), .agg (idc us), .agg (idc bs)] w fun e w' => e = .returned (.bool b) ∧ Below w.heap.size w w' := by
  subst h; exact zzInRange_any xs us bs hx ha hb0 w
theorem bet_lit (xs us bs : List Int) (hx : Id20 xs) (ha : Id20 us) (hb0 : Id20 bs) (b : Bool) (h : decide (dst (bv us) (bv xs) < dst (bv us) (bv bs)) = b) (w : World) :
    Calls Try.prog 15 #[.agg (idc xs), .agg (idc us), .agg (idc bs)] w fun e w' => e = .returned (.bool b) ∧ Below w.heap.size w w' := by
  subst h; exact zzBetween_any xs us bs hx ha hb0 w
theorem cf_lit (xs us bs : List Int) (hx : Id20 xs) (ha : Id20 us) (hb0 : Id20 bs) (c : Int) (h : sgn (dst (bv us) (bv xs)) (dst (bv us) (bv bs)) = c) (w : World) :
    Calls Try.prog 14 #[.agg (idc us), .agg (idc xs), .agg (idc bs)] w fun e w' => e = .returned (.int .i64 c) ∧ Below w.heap.size w w' := by
  subst h; exact zzCompareFrom_any us xs bs ha hx hb0 w

set_option maxRecDepth 100000 in
set_option maxHeartbeats 4000000 in
theorem core_i (xs us bs : List Int) (hx : Id20 xs) (hu : Id20 us) (hb0 : Id20 bs) (w : World)
    (r1 : sgn (dst (bv us) (bv xs)) (dst (bv us) (bv bs)) = 1)
    (h1 : decide (dst (bv us) (bv xs) < dst (bv us) (bv bs)) = false)
    (h2 : decide (dst (bv us) (bv xs) ≤ dst (bv us) (bv bs)) = false)
    (h3 : (!decide (bv us = bv bs)) = true)
    (h4 : decide (dst (bv bs) (bv xs) < dst (bv bs) (bv us)) = false)
    (h5 : decide (bv xs = bv us) = true)
    (h6 : decide (bv xs = bv bs) = false) :
    Calls Try.prog 6 #[.agg (idc xs), .agg (idc us), .agg (idc bs)] w fun e w' => e = .returned (.bool true) ∧ Below w.heap.size w w' := by
  have tb0 : True := trivial
  have tb1 : True := trivial
  have tb2 : True := trivial
  have tv0 : True := trivial
  have tv1 : True := trivial
  have tv2 : True := trivial
  have tc : True := trivial
  have td0 : True := trivial
  have ti : True := trivial
  have td1 : True := trivial
  have td2 : True := trivial
  have te0 : True := trivial
  have te1 : True := trivial
  go_enter Try.func6, Try.ntmps6
  go_wp2_with (first
    | (have _t := tb0; refine wpl_box rfl _ rfl _ rfl (by assumption) ?_; intro gb0 wb0 hsb0 hbb0 hlb0; clear tb0 _t; simp only [Act.put, List.setIfInBounds_toArray, List.set_cons_zero, List.set_cons_succ])
    | (have _t := tb1; refine wpl_box rfl _ rfl _ rfl (by assumption) ?_; intro gb1 wb1 hsb1 hbb1 hlb1; clear tb1 _t; simp only [Act.put, List.setIfInBounds_toArray, List.set_cons_zero, List.set_cons_succ])
    | (have _t := tb2; refine wpl_box rfl _ rfl _ rfl (by assumption) ?_; intro gb2 wb2 hsb2 hbb2 hlb2; clear tb2 _t; simp only [Act.put, List.setIfInBounds_toArray, List.set_cons_zero, List.set_cons_succ])
    | (refine wpl_load25 rfl _ rfl _ rfl ?_ ?_ ?_; rotate_left; (focus ((repeat (first | assumption | (apply Has.via; focus assumption))); done)); simp only [Act.put, List.setIfInBounds_toArray, List.set_cons_zero, List.set_cons_succ])
    | (refine wpl_load26 rfl _ rfl _ rfl ?_ ?_ ?_; rotate_left; (focus ((repeat (first | assumption | (apply Has.via; focus assumption))); done)); simp only [Act.put, List.setIfInBounds_toArray, List.set_cons_zero, List.set_cons_succ])
    | (have _t := tv0; refine wpl_var26 rfl rfl _ rfl rfl rfl _ rfl rfl rfl _ rfl (by assumption) ?_; intro gv0 wv0 hsv0 hbv0 hlv0; clear tv0 _t; simp only [Act.put, List.setIfInBounds_toArray, List.set_cons_zero, List.set_cons_succ])
    | (have _t := tv1; refine wpl_var26 rfl rfl _ rfl rfl rfl _ rfl rfl rfl _ rfl (by assumption) ?_; intro gv1 wv1 hsv1 hbv1 hlv1; clear tv1 _t; simp only [Act.put, List.setIfInBounds_toArray, List.set_cons_zero, List.set_cons_succ])
    | (have _t := tv2; refine wpl_var26 rfl rfl _ rfl rfl rfl _ rfl rfl rfl _ rfl (by assumption) ?_; intro gv2 wv2 hsv2 hbv2 hlv2; clear tv2 _t; simp only [Act.put, List.setIfInBounds_toArray, List.set_cons_zero, List.set_cons_succ])
    | (go_at_call 14; have _t := tc; refine (cf_lit xs us bs hx hu hb0 (1) r1 _).mono ?_; rintro e w' ⟨rfl, hb'⟩; clear tc _t)
    | (go_at_call 15; have _t := td0; refine (bet_lit xs us bs hx hu hb0 false h1 _).mono ?_; rintro e w' ⟨rfl, hb'⟩; clear td0 _t)
    | (go_at_call 13; have _t := ti; refine (inr_lit xs us bs hx hu hb0 false h2 _).mono ?_; rintro e w' ⟨rfl, hb'⟩; clear ti _t)
    | (go_at_call 15; have _t := td1; refine (bet_lit xs us bs hx hu hb0 false h1 _).mono ?_; rintro e w' ⟨rfl, hb'⟩; clear td1 _t)
    | (go_at_call 15; have _t := td2; refine (bet_lit xs bs us hx hb0 hu false h4 _).mono ?_; rintro e w' ⟨rfl, hb'⟩; clear td2 _t)
    | (refine wpl_neq26 rfl _ _ _ rfl us bs rfl rfl hu hb0 _ h3 ?_; simp only [Act.put, List.setIfInBounds_toArray, List.set_cons_zero, List.set_cons_succ])
    | (have _t := te0; refine wpl_eql26 rfl _ _ _ rfl xs us rfl rfl hx hu _ h5 ?_; clear te0 _t; simp only [Act.put, List.setIfInBounds_toArray, List.set_cons_zero, List.set_cons_succ])
    | (have _t := te1; refine wpl_eql26 rfl _ _ _ rfl xs bs rfl rfl hx hb0 _ h6 ?_; clear te1 _t; simp only [Act.put, List.setIfInBounds_toArray, List.set_cons_zero, List.set_cons_succ]))
  go_ret
  refine ⟨rfl, ?_⟩
  repeat (first | assumption | (apply Below.via; focus assumption))

set_option maxRecDepth 100000 in
set_option maxHeartbeats 4000000 in
theorem core_ii (xs us bs : List Int) (hx : Id20 xs) (hu : Id20 us) (hb0 : Id20 bs) (w : World)
    (r1 : sgn (dst (bv us) (bv xs)) (dst (bv us) (bv bs)) = 0)
    (h1 : decide (dst (bv us) (bv xs) < dst (bv us) (bv bs)) = false)
    (h2 : decide (dst (bv us) (bv xs) ≤ dst (bv us) (bv bs)) = true)
    (h3 : (!decide (bv us = bv bs)) = true)
    (h4 : decide (dst (bv bs) (bv xs) < dst (bv bs) (bv us)) = false)
    (h5 : decide (bv xs = bv us) = false)
    (h6 : decide (bv xs = bv bs) = true) :
    Calls Try.prog 6 #[.agg (idc xs), .agg (idc us), .agg (idc bs)] w fun e w' => e = .returned (.bool true) ∧ Below w.heap.size w w' := by
  have tb0 : True := trivial
  have tb1 : True := trivial
  have tb2 : True := trivial
  have tv0 : True := trivial
  have tv1 : True := trivial
  have tv2 : True := trivial
  have tc : True := trivial
  have td0 : True := trivial
  have ti : True := trivial
  have td1 : True := trivial
  have td2 : True := trivial
  have te0 : True := trivial
  have te1 : True := trivial
  go_enter Try.func6, Try.ntmps6
  go_wp2_with (first
    | (have _t := tb0; refine wpl_box rfl _ rfl _ rfl (by assumption) ?_; intro gb0 wb0 hsb0 hbb0 hlb0; clear tb0 _t; simp only [Act.put, List.setIfInBounds_toArray, List.set_cons_zero, List.set_cons_succ])
    | (have _t := tb1; refine wpl_box rfl _ rfl _ rfl (by assumption) ?_; intro gb1 wb1 hsb1 hbb1 hlb1; clear tb1 _t; simp only [Act.put, List.setIfInBounds_toArray, List.set_cons_zero, List.set_cons_succ])
    | (have _t := tb2; refine wpl_box rfl _ rfl _ rfl (by assumption) ?_; intro gb2 wb2 hsb2 hbb2 hlb2; clear tb2 _t; simp only [Act.put, List.setIfInBounds_toArray, List.set_cons_zero, List.set_cons_succ])
    | (refine wpl_load25 rfl _ rfl _ rfl ?_ ?_ ?_; rotate_left; (focus ((repeat (first | assumption | (apply Has.via; focus assumption))); done)); simp only [Act.put, List.setIfInBounds_toArray, List.set_cons_zero, List.set_cons_succ])
    | (refine wpl_load26 rfl _ rfl _ rfl ?_ ?_ ?_; rotate_left; (focus ((repeat (first | assumption | (apply Has.via; focus assumption))); done)); simp only [Act.put, List.setIfInBounds_toArray, List.set_cons_zero, List.set_cons_succ])
    | (have _t := tv0; refine wpl_var26 rfl rfl _ rfl rfl rfl _ rfl rfl rfl _ rfl (by assumption) ?_; intro gv0 wv0 hsv0 hbv0 hlv0; clear tv0 _t; simp only [Act.put, List.setIfInBounds_toArray, List.set_cons_zero, List.set_cons_succ])
    | (have _t := tv1; refine wpl_var26 rfl rfl _ rfl rfl rfl _ rfl rfl rfl _ rfl (by assumption) ?_; intro gv1 wv1 hsv1 hbv1 hlv1; clear tv1 _t; simp only [Act.put, List.setIfInBounds_toArray, List.set_cons_zero, List.set_cons_succ])
    | (have _t := tv2; refine wpl_var26 rfl rfl _ rfl rfl rfl _ rfl rfl rfl _ rfl (by assumption) ?_; intro gv2 wv2 hsv2 hbv2 hlv2; clear tv2 _t; simp only [Act.put, List.setIfInBounds_toArray, List.set_cons_zero, List.set_cons_succ])
    | (go_at_call 14; have _t := tc; refine (cf_lit xs us bs hx hu hb0 (0) r1 _).mono ?_; rintro e w' ⟨rfl, hb'⟩; clear tc _t)
    | (go_at_call 15; have _t := td0; refine (bet_lit xs us bs hx hu hb0 false h1 _).mono ?_; rintro e w' ⟨rfl, hb'⟩; clear td0 _t)
    | (go_at_call 13; have _t := ti; refine (inr_lit xs us bs hx hu hb0 true h2 _).mono ?_; rintro e w' ⟨rfl, hb'⟩; clear ti _t)
    | (go_at_call 15; have _t := td1; refine (bet_lit xs us bs hx hu hb0 false h1 _).mono ?_; rintro e w' ⟨rfl, hb'⟩; clear td1 _t)
    | (go_at_call 15; have _t := td2; refine (bet_lit xs bs us hx hb0 hu false h4 _).mono ?_; rintro e w' ⟨rfl, hb'⟩; clear td2 _t)
    | (refine wpl_neq26 rfl _ _ _ rfl us bs rfl rfl hu hb0 _ h3 ?_; simp only [Act.put, List.setIfInBounds_toArray, List.set_cons_zero, List.set_cons_succ])
    | (have _t := te0; refine wpl_eql26 rfl _ _ _ rfl xs us rfl rfl hx hu _ h5 ?_; clear te0 _t; simp only [Act.put, List.setIfInBounds_toArray, List.set_cons_zero, List.set_cons_succ])
    | (have _t := te1; refine wpl_eql26 rfl _ _ _ rfl xs bs rfl rfl hx hb0 _ h6 ?_; clear te1 _t; simp only [Act.put, List.setIfInBounds_toArray, List.set_cons_zero, List.set_cons_succ]))
  go_ret
  refine ⟨rfl, ?_⟩
  repeat (first | assumption | (apply Below.via; focus assumption))

set_option maxRecDepth 100000 in
set_option maxHeartbeats 4000000 in
theorem core_iii (xs us bs : List Int) (hx : Id20 xs) (hu : Id20 us) (hb0 : Id20 bs) (w : World)
    (r1 : sgn (dst (bv us) (bv xs)) (dst (bv us) (bv bs)) = -1)
    (h1 : decide (dst (bv us) (bv xs) < dst (bv us) (bv bs)) = true)
    (h2 : decide (dst (bv us) (bv xs) ≤ dst (bv us) (bv bs)) = true)
    (h3 : (!decide (bv us = bv bs)) = true)
    (h4 : decide (dst (bv bs) (bv xs) < dst (bv bs) (bv us)) = false)
    (h5 : decide (bv xs = bv us) = false)
    (h6 : decide (bv xs = bv bs) = false) :
    Calls Try.prog 6 #[.agg (idc xs), .agg (idc us), .agg (idc bs)] w fun e w' => e = .returned (.bool true) ∧ Below w.heap.size w w' := by
  have tb0 : True := trivial
  have tb1 : True := trivial
  have tb2 : True := trivial
  have tv0 : True := trivial
  have tv1 : True := trivial
  have tv2 : True := trivial
  have tc : True := trivial
  have td0 : True := trivial
  have ti : True := trivial
  have td1 : True := trivial
  have td2 : True := trivial
  have te0 : True := trivial
  have te1 : True := trivial
  go_enter Try.func6, Try.ntmps6
  go_wp2_with (first
    | (have _t := tb0; refine wpl_box rfl _ rfl _ rfl (by assumption) ?_; intro gb0 wb0 hsb0 hbb0 hlb0; clear tb0 _t; simp only [Act.put, List.setIfInBounds_toArray, List.set_cons_zero, List.set_cons_succ])
    | (have _t := tb1; refine wpl_box rfl _ rfl _ rfl (by assumption) ?_; intro gb1 wb1 hsb1 hbb1 hlb1; clear tb1 _t; simp only [Act.put, List.setIfInBounds_toArray, List.set_cons_zero, List.set_cons_succ])
    | (have _t := tb2; refine wpl_box rfl _ rfl _ rfl (by assumption) ?_; intro gb2 wb2 hsb2 hbb2 hlb2; clear tb2 _t; simp only [Act.put, List.setIfInBounds_toArray, List.set_cons_zero, List.set_cons_succ])
    | (refine wpl_load25 rfl _ rfl _ rfl ?_ ?_ ?_; rotate_left; (focus ((repeat (first | assumption | (apply Has.via; focus assumption))); done)); simp only [Act.put, List.setIfInBounds_toArray, List.set_cons_zero, List.set_cons_succ])
    | (refine wpl_load26 rfl _ rfl _ rfl ?_ ?_ ?_; rotate_left; (focus ((repeat (first | assumption | (apply Has.via; focus assumption))); done)); simp only [Act.put, List.setIfInBounds_toArray, List.set_cons_zero, List.set_cons_succ])
    | (have _t := tv0; refine wpl_var26 rfl rfl _ rfl rfl rfl _ rfl rfl rfl _ rfl (by assumption) ?_; intro gv0 wv0 hsv0 hbv0 hlv0; clear tv0 _t; simp only [Act.put, List.setIfInBounds_toArray, List.set_cons_zero, List.set_cons_succ])
    | (have _t := tv1; refine wpl_var26 rfl rfl _ rfl rfl rfl _ rfl rfl rfl _ rfl (by assumption) ?_; intro gv1 wv1 hsv1 hbv1 hlv1; clear tv1 _t; simp only [Act.put, List.setIfInBounds_toArray, List.set_cons_zero, List.set_cons_succ])
    | (have _t := tv2; refine wpl_var26 rfl rfl _ rfl rfl rfl _ rfl rfl rfl _ rfl (by assumption) ?_; intro gv2 wv2 hsv2 hbv2 hlv2; clear tv2 _t; simp only [Act.put, List.setIfInBounds_toArray, List.set_cons_zero, List.set_cons_succ])
    | (go_at_call 14; have _t := tc; refine (cf_lit xs us bs hx hu hb0 (-1) r1 _).mono ?_; rintro e w' ⟨rfl, hb'⟩; clear tc _t)
    | (go_at_call 15; have _t := td0; refine (bet_lit xs us bs hx hu hb0 true h1 _).mono ?_; rintro e w' ⟨rfl, hb'⟩; clear td0 _t)
    | (go_at_call 13; have _t := ti; refine (inr_lit xs us bs hx hu hb0 true h2 _).mono ?_; rintro e w' ⟨rfl, hb'⟩; clear ti _t)
    | (go_at_call 15; have _t := td1; refine (bet_lit xs us bs hx hu hb0 true h1 _).mono ?_; rintro e w' ⟨rfl, hb'⟩; clear td1 _t)
    | (go_at_call 15; have _t := td2; refine (bet_lit xs bs us hx hb0 hu false h4 _).mono ?_; rintro e w' ⟨rfl, hb'⟩; clear td2 _t)
    | (refine wpl_neq26 rfl _ _ _ rfl us bs rfl rfl hu hb0 _ h3 ?_; simp only [Act.put, List.setIfInBounds_toArray, List.set_cons_zero, List.set_cons_succ])
    | (have _t := te0; refine wpl_eql26 rfl _ _ _ rfl xs us rfl rfl hx hu _ h5 ?_; clear te0 _t; simp only [Act.put, List.setIfInBounds_toArray, List.set_cons_zero, List.set_cons_succ])
    | (have _t := te1; refine wpl_eql26 rfl _ _ _ rfl xs bs rfl rfl hx hb0 _ h6 ?_; clear te1 _t; simp only [Act.put, List.setIfInBounds_toArray, List.set_cons_zero, List.set_cons_succ]))
  go_ret
  refine ⟨rfl, ?_⟩
  repeat (first | assumption | (apply Below.via; focus assumption))

set_option maxRecDepth 100000 in
set_option maxHeartbeats 4000000 in
theorem core_iv (xs us bs : List Int) (hx : Id20 xs) (hu : Id20 us) (hb0 : Id20 bs) (w : World)
    (r1 : sgn (dst (bv us) (bv xs)) (dst (bv us) (bv bs)) = 1)
    (h1 : decide (dst (bv us) (bv xs) < dst (bv us) (bv bs)) = false)
    (h2 : decide (dst (bv us) (bv xs) ≤ dst (bv us) (bv bs)) = false)
    (h3 : (!decide (bv us = bv bs)) = true)
    (h4 : decide (dst (bv bs) (bv xs) < dst (bv bs) (bv us)) = true)
    (h5 : decide (bv xs = bv us) = false)
    (h6 : decide (bv xs = bv bs) = false) :
    Calls Try.prog 6 #[.agg (idc xs), .agg (idc us), .agg (idc bs)] w fun e w' => e = .returned (.bool true) ∧ Below w.heap.size w w' := by
  have tb0 : True := trivial
  have tb1 : True := trivial
  have tb2 : True := trivial
  have tv0 : True := trivial
  have tv1 : True := trivial
  have tv2 : True := trivial
  have tc : True := trivial
  have td0 : True := trivial
  have ti : True := trivial
  have td1 : True := trivial
  have td2 : True := trivial
  have te0 : True := trivial
  have te1 : True := trivial
  go_enter Try.func6, Try.ntmps6
  go_wp2_with (first
    | (have _t := tb0; refine wpl_box rfl _ rfl _ rfl (by assumption) ?_; intro gb0 wb0 hsb0 hbb0 hlb0; clear tb0 _t; simp only [Act.put, List.setIfInBounds_toArray, List.set_cons_zero, List.set_cons_succ])
    | (have _t := tb1; refine wpl_box rfl _ rfl _ rfl (by assumption) ?_; intro gb1 wb1 hsb1 hbb1 hlb1; clear tb1 _t; simp only [Act.put, List.setIfInBounds_toArray, List.set_cons_zero, List.set_cons_succ])
    | (have _t := tb2; refine wpl_box rfl _ rfl _ rfl (by assumption) ?_; intro gb2 wb2 hsb2 hbb2 hlb2; clear tb2 _t; simp only [Act.put, List.setIfInBounds_toArray, List.set_cons_zero, List.set_cons_succ])
    | (refine wpl_load25 rfl _ rfl _ rfl ?_ ?_ ?_; rotate_left; (focus ((repeat (first | assumption | (apply Has.via; focus assumption))); done)); simp only [Act.put, List.setIfInBounds_toArray, List.set_cons_zero, List.set_cons_succ])
    | (refine wpl_load26 rfl _ rfl _ rfl ?_ ?_ ?_; rotate_left; (focus ((repeat (first | assumption | (apply Has.via; focus assumption))); done)); simp only [Act.put, List.setIfInBounds_toArray, List.set_cons_zero, List.set_cons_succ])
    | (have _t := tv0; refine wpl_var26 rfl rfl _ rfl rfl rfl _ rfl rfl rfl _ rfl (by assumption) ?_; intro gv0 wv0 hsv0 hbv0 hlv0; clear tv0 _t; simp only [Act.put, List.setIfInBounds_toArray, List.set_cons_zero, List.set_cons_succ])
    | (have _t := tv1; refine wpl_var26 rfl rfl _ rfl rfl rfl _ rfl rfl rfl _ rfl (by assumption) ?_; intro gv1 wv1 hsv1 hbv1 hlv1; clear tv1 _t; simp only [Act.put, List.setIfInBounds_toArray, List.set_cons_zero, List.set_cons_succ])
    | (have _t := tv2; refine wpl_var26 rfl rfl _ rfl rfl rfl _ rfl rfl rfl _ rfl (by assumption) ?_; intro gv2 wv2 hsv2 hbv2 hlv2; clear tv2 _t; simp only [Act.put, List.setIfInBounds_toArray, List.set_cons_zero, List.set_cons_succ])
    | (go_at_call 14; have _t := tc; refine (cf_lit xs us bs hx hu hb0 (1) r1 _).mono ?_; rintro e w' ⟨rfl, hb'⟩; clear tc _t)
    | (go_at_call 15; have _t := td0; refine (bet_lit xs us bs hx hu hb0 false h1 _).mono ?_; rintro e w' ⟨rfl, hb'⟩; clear td0 _t)
    | (go_at_call 13; have _t := ti; refine (inr_lit xs us bs hx hu hb0 false h2 _).mono ?_; rintro e w' ⟨rfl, hb'⟩; clear ti _t)
    | (go_at_call 15; have _t := td1; refine (bet_lit xs us bs hx hu hb0 false h1 _).mono ?_; rintro e w' ⟨rfl, hb'⟩; clear td1 _t)
    | (go_at_call 15; have _t := td2; refine (bet_lit xs bs us hx hb0 hu true h4 _).mono ?_; rintro e w' ⟨rfl, hb'⟩; clear td2 _t)
    | (refine wpl_neq26 rfl _ _ _ rfl us bs rfl rfl hu hb0 _ h3 ?_; simp only [Act.put, List.setIfInBounds_toArray, List.set_cons_zero, List.set_cons_succ])
    | (have _t := te0; refine wpl_eql26 rfl _ _ _ rfl xs us rfl rfl hx hu _ h5 ?_; clear te0 _t; simp only [Act.put, List.setIfInBounds_toArray, List.set_cons_zero, List.set_cons_succ])
    | (have _t := te1; refine wpl_eql26 rfl _ _ _ rfl xs bs rfl rfl hx hb0 _ h6 ?_; clear te1 _t; simp only [Act.put, List.setIfInBounds_toArray, List.set_cons_zero, List.set_cons_succ]))
  go_ret
  refine ⟨rfl, ?_⟩
  repeat (first | assumption | (apply Below.via; focus assumption))

set_option maxRecDepth 100000 in
set_option maxHeartbeats 4000000 in
theorem core_v (xs us bs : List Int) (hx : Id20 xs) (hu : Id20 us) (hb0 : Id20 bs) (w : World)
    (r1 : sgn (dst (bv us) (bv xs)) (dst (bv us) (bv bs)) = -1)
    (h1 : decide (dst (bv us) (bv xs) < dst (bv us) (bv bs)) = true)
    (h2 : decide (dst (bv us) (bv xs) ≤ dst (bv us) (bv bs)) = true)
    (h3 : (!decide (bv us = bv bs)) = false)
    (h4 : decide (dst (bv us) (bv xs) < dst (bv us) (bv us)) = true)
    (h5 : (!decide (bv xs = bv us)) = true) :
    Calls Try.prog 6 #[.agg (idc xs), .agg (idc us), .agg (idc bs)] w fun e w' => e = .returned (.bool true) ∧ Below w.heap.size w w' := by
  have tb0 : True := trivial
  have tb1 : True := trivial
  have tb2 : True := trivial
  have tv0 : True := trivial
  have tv1 : True := trivial
  have tv2 : True := trivial
  have tc : True := trivial
  have td0 : True := trivial
  have ti : True := trivial
  go_enter Try.func6, Try.ntmps6
  go_wp2_with (first
    | (have _t := tb0; refine wpl_box rfl _ rfl _ rfl (by assumption) ?_; intro gb0 wb0 hsb0 hbb0 hlb0; clear tb0 _t; simp only [Act.put, List.setIfInBounds_toArray, List.set_cons_zero, List.set_cons_succ])
    | (have _t := tb1; refine wpl_box rfl _ rfl _ rfl (by assumption) ?_; intro gb1 wb1 hsb1 hbb1 hlb1; clear tb1 _t; simp only [Act.put, List.setIfInBounds_toArray, List.set_cons_zero, List.set_cons_succ])
    | (have _t := tb2; refine wpl_box rfl _ rfl _ rfl (by assumption) ?_; intro gb2 wb2 hsb2 hbb2 hlb2; clear tb2 _t; simp only [Act.put, List.setIfInBounds_toArray, List.set_cons_zero, List.set_cons_succ])
    | (refine wpl_load25 rfl _ rfl _ rfl ?_ ?_ ?_; rotate_left; (focus ((repeat (first | assumption | (apply Has.via; focus assumption))); done)); simp only [Act.put, List.setIfInBounds_toArray, List.set_cons_zero, List.set_cons_succ])
    | (refine wpl_load26 rfl _ rfl _ rfl ?_ ?_ ?_; rotate_left; (focus ((repeat (first | assumption | (apply Has.via; focus assumption))); done)); simp only [Act.put, List.setIfInBounds_toArray, List.set_cons_zero, List.set_cons_succ])
    | (have _t := tv0; refine wpl_var26 rfl rfl _ rfl rfl rfl _ rfl rfl rfl _ rfl (by assumption) ?_; intro gv0 wv0 hsv0 hbv0 hlv0; clear tv0 _t; simp only [Act.put, List.setIfInBounds_toArray, List.set_cons_zero, List.set_cons_succ])
    | (have _t := tv1; refine wpl_var26 rfl rfl _ rfl rfl rfl _ rfl rfl rfl _ rfl (by assumption) ?_; intro gv1 wv1 hsv1 hbv1 hlv1; clear tv1 _t; simp only [Act.put, List.setIfInBounds_toArray, List.set_cons_zero, List.set_cons_succ])
    | (have _t := tv2; refine wpl_var26 rfl rfl _ rfl rfl rfl _ rfl rfl rfl _ rfl (by assumption) ?_; intro gv2 wv2 hsv2 hbv2 hlv2; clear tv2 _t; simp only [Act.put, List.setIfInBounds_toArray, List.set_cons_zero, List.set_cons_succ])
    | (go_at_call 14; have _t := tc; refine (cf_lit xs us bs hx hu hb0 (-1) r1 _).mono ?_; rintro e w' ⟨rfl, hb'⟩; clear tc _t)
    | (go_at_call 15; have _t := td0; refine (bet_lit xs us bs hx hu hb0 true h1 _).mono ?_; rintro e w' ⟨rfl, hb'⟩; clear td0 _t)
    | (go_at_call 13; have _t := ti; refine (inr_lit xs us bs hx hu hb0 true h2 _).mono ?_; rintro e w' ⟨rfl, hb'⟩; clear ti _t)
    | (refine wpl_neq26 rfl _ _ _ rfl us bs rfl rfl hu hb0 _ h3 ?_; simp only [Act.put, List.setIfInBounds_toArray, List.set_cons_zero, List.set_cons_succ]))
  have HX : Has w' gv0 xs := by ((repeat (first | assumption | (apply Has.via; focus assumption))); done)
  have HU : Has w' gv1 us := by ((repeat (first | assumption | (apply Has.via; focus assumption))); done)
  refine wp_region_ext (by kernel_rfl) (by kernel_rfl) ?_
  refine wq_load26 rfl _ rfl gv0 rfl xs HX ?_
  simp only [Act.put, List.setIfInBounds_toArray, List.set_cons_zero, List.set_cons_succ]
  refine wq_load26 rfl _ rfl gv1 rfl us HU ?_
  simp only [Act.put, List.setIfInBounds_toArray, List.set_cons_zero, List.set_cons_succ]
  refine wq_load26 rfl _ rfl gv1 rfl us HU ?_
  simp only [Act.put, List.setIfInBounds_toArray, List.set_cons_zero, List.set_cons_succ]
  refine wq_call rfl (.bool true) 15 #[.agg (idc xs), .agg (idc us), .agg (idc us)] (fun _ => run_call rfl rfl (by simp [Act.eval]) Try.func15 (by kernel_rfl) (by kernel_rfl)) (fun W _ => bet_lit xs us us hx hu hu true h4 W) ?_
  simp only [Act.put, List.setIfInBounds_toArray, List.set_cons_zero, List.set_cons_succ]
  refine wq_load26 rfl _ rfl gv0 rfl xs HX ?_
  simp only [Act.put, List.setIfInBounds_toArray, List.set_cons_zero, List.set_cons_succ]
  refine wq_load26 rfl _ rfl gv1 rfl us HU ?_
  simp only [Act.put, List.setIfInBounds_toArray, List.set_cons_zero, List.set_cons_succ]
  refine wq_val rfl (.bool true) (fun _ => run_neq26 rfl rfl rfl hx hu h5) ?_
  simp only [Act.put, List.setIfInBounds_toArray, List.set_cons_zero, List.set_cons_succ]
  refine wq_val rfl (.bool true) (fun _ => run_eqlBool rfl rfl rfl Try.underlying4 rfl) ?_
  simp only [Act.put, List.setIfInBounds_toArray, List.set_cons_zero, List.set_cons_succ]
  refine wq_val rfl (.bool true) (fun _ => run_assign rfl rfl) ?_
  simp only [Act.put, List.setIfInBounds_toArray, List.set_cons_zero, List.set_cons_succ]
  refine wq_nil ?_
  intro w6 hb6
  have hb6' : Below w'.heap.size w' w6 := hb6
  go_wp2
  go_ret
  refine ⟨rfl, ?_⟩
  repeat (first | assumption | (apply Below.via; focus assumption))

set_option maxRecDepth 100000 in
set_option maxHeartbeats 4000000 in
theorem core_vi (xs us bs : List Int) (hx : Id20 xs) (hu : Id20 us) (hb0 : Id20 bs) (w : World)
    (r1 : sgn (dst (bv us) (bv xs)) (dst (bv us) (bv bs)) = 0)
    (h1 : decide (dst (bv us) (bv xs) < dst (bv us) (bv bs)) = false)
    (h2 : decide (dst (bv us) (bv xs) ≤ dst (bv us) (bv bs)) = true)
    (h3 : (!decide (bv us = bv bs)) = false)
    (h4 : decide (dst (bv us) (bv xs) < dst (bv us) (bv us)) = false)
    (h5 : (!decide (bv xs = bv us)) = false) :
    Calls Try.prog 6 #[.agg (idc xs), .agg (idc us), .agg (idc bs)] w fun e w' => e = .returned (.bool true) ∧ Below w.heap.size w w' := by
  have tb0 : True := trivial
  have tb1 : True := trivial
  have tb2 : True := trivial
  have tv0 : True := trivial
  have tv1 : True := trivial
  have tv2 : True := trivial
  have tc : True := trivial
  have td0 : True := trivial
  have ti : True := trivial
  go_enter Try.func6, Try.ntmps6
  go_wp2_with (first
    | (have _t := tb0; refine wpl_box rfl _ rfl _ rfl (by assumption) ?_; intro gb0 wb0 hsb0 hbb0 hlb0; clear tb0 _t; simp only [Act.put, List.setIfInBounds_toArray, List.set_cons_zero, List.set_cons_succ])
    | (have _t := tb1; refine wpl_box rfl _ rfl _ rfl (by assumption) ?_; intro gb1 wb1 hsb1 hbb1 hlb1; clear tb1 _t; simp only [Act.put, List.setIfInBounds_toArray, List.set_cons_zero, List.set_cons_succ])
    | (have _t := tb2; refine wpl_box rfl _ rfl _ rfl (by assumption) ?_; intro gb2 wb2 hsb2 hbb2 hlb2; clear tb2 _t; simp only [Act.put, List.setIfInBounds_toArray, List.set_cons_zero, List.set_cons_succ])
    | (refine wpl_load25 rfl _ rfl _ rfl ?_ ?_ ?_; rotate_left; (focus ((repeat (first | assumption | (apply Has.via; focus assumption))); done)); simp only [Act.put, List.setIfInBounds_toArray, List.set_cons_zero, List.set_cons_succ])
    | (refine wpl_load26 rfl _ rfl _ rfl ?_ ?_ ?_; rotate_left; (focus ((repeat (first | assumption | (apply Has.via; focus assumption))); done)); simp only [Act.put, List.setIfInBounds_toArray, List.set_cons_zero, List.set_cons_succ])
    | (have _t := tv0; refine wpl_var26 rfl rfl _ rfl rfl rfl _ rfl rfl rfl _ rfl (by assumption) ?_; intro gv0 wv0 hsv0 hbv0 hlv0; clear tv0 _t; simp only [Act.put, List.setIfInBounds_toArray, List.set_cons_zero, List.set_cons_succ])
    | (have _t := tv1; refine wpl_var26 rfl rfl _ rfl rfl rfl _ rfl rfl rfl _ rfl (by assumption) ?_; intro gv1 wv1 hsv1 hbv1 hlv1; clear tv1 _t; simp only [Act.put, List.setIfInBounds_toArray, List.set_cons_zero, List.set_cons_succ])
    | (have _t := tv2; refine wpl_var26 rfl rfl _ rfl rfl rfl _ rfl rfl rfl _ rfl (by assumption) ?_; intro gv2 wv2 hsv2 hbv2 hlv2; clear tv2 _t; simp only [Act.put, List.setIfInBounds_toArray, List.set_cons_zero, List.set_cons_succ])
    | (go_at_call 14; have _t := tc; refine (cf_lit xs us bs hx hu hb0 (0) r1 _).mono ?_; rintro e w' ⟨rfl, hb'⟩; clear tc _t)
    | (go_at_call 15; have _t := td0; refine (bet_lit xs us bs hx hu hb0 false h1 _).mono ?_; rintro e w' ⟨rfl, hb'⟩; clear td0 _t)
    | (go_at_call 13; have _t := ti; refine (inr_lit xs us bs hx hu hb0 true h2 _).mono ?_; rintro e w' ⟨rfl, hb'⟩; clear ti _t)
    | (refine wpl_neq26 rfl _ _ _ rfl us bs rfl rfl hu hb0 _ h3 ?_; simp only [Act.put, List.setIfInBounds_toArray, List.set_cons_zero, List.set_cons_succ]))
  have HX : Has w' gv0 xs := by ((repeat (first | assumption | (apply Has.via; focus assumption))); done)
  have HU : Has w' gv1 us := by ((repeat (first | assumption | (apply Has.via; focus assumption))); done)
  refine wp_region_ext (by kernel_rfl) (by kernel_rfl) ?_
  refine wq_load26 rfl _ rfl gv0 rfl xs HX ?_
  simp only [Act.put, List.setIfInBounds_toArray, List.set_cons_zero, List.set_cons_succ]
  refine wq_load26 rfl _ rfl gv1 rfl us HU ?_
  simp only [Act.put, List.setIfInBounds_toArray, List.set_cons_zero, List.set_cons_succ]
  refine wq_load26 rfl _ rfl gv1 rfl us HU ?_
  simp only [Act.put, List.setIfInBounds_toArray, List.set_cons_zero, List.set_cons_succ]
  refine wq_call rfl (.bool false) 15 #[.agg (idc xs), .agg (idc us), .agg (idc us)] (fun _ => run_call rfl rfl (by simp [Act.eval]) Try.func15 (by kernel_rfl) (by kernel_rfl)) (fun W _ => bet_lit xs us us hx hu hu false h4 W) ?_
  simp only [Act.put, List.setIfInBounds_toArray, List.set_cons_zero, List.set_cons_succ]
  refine wq_load26 rfl _ rfl gv0 rfl xs HX ?_
  simp only [Act.put, List.setIfInBounds_toArray, List.set_cons_zero, List.set_cons_succ]
  refine wq_load26 rfl _ rfl gv1 rfl us HU ?_
  simp only [Act.put, List.setIfInBounds_toArray, List.set_cons_zero, List.set_cons_succ]
  refine wq_val rfl (.bool false) (fun _ => run_neq26 rfl rfl rfl hx hu h5) ?_
  simp only [Act.put, List.setIfInBounds_toArray, List.set_cons_zero, List.set_cons_succ]
  refine wq_val rfl (.bool true) (fun _ => run_eqlBool rfl rfl rfl Try.underlying4 rfl) ?_
  simp only [Act.put, List.setIfInBounds_toArray, List.set_cons_zero, List.set_cons_succ]
  refine wq_val rfl (.bool true) (fun _ => run_assign rfl rfl) ?_
  simp only [Act.put, List.setIfInBounds_toArray, List.set_cons_zero, List.set_cons_succ]
  refine wq_nil ?_
  intro w6 hb6
  have hb6' : Below w'.heap.size w' w6 := hb6
  go_wp2
  go_ret
  refine ⟨rfl, ?_⟩
  repeat (first | assumption | (apply Below.via; focus assumption))


theorem walk (xs us bs : List Int) (hx : Id20 xs) (hu : Id20 us) (hb0 : Id20 bs) (w : World) :
    Calls Try.prog 6 #[.agg (idc xs), .agg (idc us), .agg (idc bs)] w fun e w' => e = .returned (.bool true) ∧ Below w.heap.size w w' := by
  have X := hx.bounds
  have U := hu.bounds
  have Bn := hb0.bounds
  have su := dst_self (bv us)
  have sb := dst_self (bv bs)
  by_cases e : bv us = bv bs
  · have e' : dst (bv us) (bv bs) = 1461501637330902918203684832716283019655932542975 := by rw [← e]; exact su
    by_cases f : bv xs = bv us
    · have k : dst (bv us) (bv xs) = 1461501637330902918203684832716283019655932542975 := by rw [f]; exact su
      exact core_vi xs us bs hx hu hb0 w (sgn_eq (by omega)) (decide_eq_false (by omega)) (decide_eq_true (by omega)) (by simpa using e) (decide_eq_false (by omega)) (by simpa using f)
    · have k : dst (bv us) (bv xs) < 1461501637330902918203684832716283019655932542975 := by
        have h1 := dst_bounds (bv us) (bv xs)
        have h2 : dst (bv us) (bv xs) ≠ 1461501637330902918203684832716283019655932542975 := fun h => f (dst_inj U X U (by omega))
        omega
      exact core_v xs us bs hx hu hb0 w (sgn_lt (by omega)) (decide_eq_true (by omega)) (decide_eq_true (by omega)) (by simpa using e) (decide_eq_true (by omega)) (by simpa using f)
  · have k : dst (bv us) (bv bs) < 1461501637330902918203684832716283019655932542975 := by
      have h1 := dst_bounds (bv us) (bv bs)
      have h2 : dst (bv us) (bv bs) ≠ 1461501637330902918203684832716283019655932542975 := fun h => e (dst_inj U U Bn (by omega))
      omega
    have k' : dst (bv bs) (bv us) < 1461501637330902918203684832716283019655932542975 := by
      have h1 := dst_bounds (bv bs) (bv us)
      have h2 : dst (bv bs) (bv us) ≠ 1461501637330902918203684832716283019655932542975 := fun h => e (dst_inj Bn U Bn (by omega))
      omega
    by_cases f : bv xs = bv us
    · have k1 : dst (bv us) (bv xs) = 1461501637330902918203684832716283019655932542975 := by rw [f]; exact su
      have k2 : dst (bv bs) (bv xs) = dst (bv bs) (bv us) := by rw [f]
      exact core_i xs us bs hx hu hb0 w (sgn_gt (by omega)) (decide_eq_false (by omega)) (decide_eq_false (by omega)) (by simpa using e) (decide_eq_false (by omega)) (decide_eq_true f) (decide_eq_false (fun h => e (f ▸ h)))
    · by_cases g : bv xs = bv bs
      · have k1 : dst (bv us) (bv xs) = dst (bv us) (bv bs) := by rw [g]
        have k2 : dst (bv bs) (bv xs) = 1461501637330902918203684832716283019655932542975 := by rw [g]; exact sb
        exact core_ii xs us bs hx hu hb0 w (sgn_eq k1) (decide_eq_false (by omega)) (decide_eq_true (by omega)) (by simpa using e) (decide_eq_false (by omega)) (decide_eq_false f) (decide_eq_true g)
      · rcases Int.lt_or_le (dst (bv us) (bv xs)) (dst (bv us) (bv bs)) with c | c
        · have k2 : ¬ dst (bv bs) (bv xs) < dst (bv bs) (bv us) := by unfold dst at *; omega
          exact core_iii xs us bs hx hu hb0 w (sgn_lt c) (decide_eq_true c) (decide_eq_true (by omega)) (by simpa using e) (decide_eq_false k2) (decide_eq_false f) (decide_eq_false g)
        · have c' : dst (bv us) (bv bs) < dst (bv us) (bv xs) := by
            have : dst (bv us) (bv xs) ≠ dst (bv us) (bv bs) := fun h => g (dst_inj U X Bn h)
            omega
          have k2 : dst (bv bs) (bv xs) < dst (bv bs) (bv us) := by
            have : dst (bv us) (bv xs) ≠ 1461501637330902918203684832716283019655932542975 := fun h => f (dst_inj U X U (by omega))
            unfold dst at *; omega
          exact core_iv xs us bs hx hu hb0 w (sgn_gt c') (decide_eq_false (by omega)) (decide_eq_false (by omega)) (by simpa using e) (decide_eq_true k2) (decide_eq_false f) (decide_eq_false g)

/-! ### THE ROW's STEP, after the guide's frame -/
set_option maxRecDepth 100000 in
theorem lifted (os : Os) (started : os.Started) (H : Type) (enc : TypeId × Value → H) :
    ReturnsInHanded {} Try.checked os 6 .any (Rows.fnBetweenAndInRangeFollowCompareFromSpec.pre6 enc Try.prog Try.f6 Rows.fnBetweenAndInRangeFollowCompareFromRow.domain false) (Rows.fnBetweenAndInRangeFollowCompareFromSpec.post enc Try.prog Try.f6 false true false false) := by
  refine returnsInHanded_of_change (C := Try.checked) own started (by kernel_rfl) Try.func6
    (ChangeSpec.witness6 (enc := enc) (C := Try.checked) false ⟨#[], #[.agg (idc zeros), .agg (idc zeros), .agg (idc zeros)], []⟩ 8 (by kernel_rfl) (by kernel_rfl) (by kernel_rfl) (by kernel_rfl)) ?_
  intro W base args ds gs before hval0 hW hcnd _
  have hval : ∀ (j : Nat) t v, Try.f6.params[j]? = some t → args[j]? = some v → Value.okWide Try.prog W .any base t v := hval0
  have hW' := hW
  obtain ⟨p, q, hA0, hV, rfl, hfz, hnd⟩ := hW
  have hA : DataW.TrodAll enc Try.prog W 0 (fun _ => true) true Try.f6.params.toList args.toList ds p := hA0
  rw [Try.params6] at hA hval
  obtain ⟨v0, vs0, d0, ds0, p0, q0, hargs, rfl, rfl, h0, r0⟩ := trodAll_cons hA
  obtain ⟨v1, vs1, d1, ds1, p1, q1, rfl, rfl, rfl, h1, r1⟩ := trodAll_cons r0
  obtain ⟨v2, vs2, d2, ds2, p2, q2, rfl, rfl, rfl, h2, r2⟩ := trodAll_cons r1
  obtain ⟨rfl, rfl, rfl⟩ := trodAll_nil r2
  obtain rfl : args = #[v0, v1, v2] := by cases args; simp_all
  obtain ⟨rfl, rfl⟩ := trodVars_none hV
  have k0 := h0
  have lt0 : ∀ x ∈ p0, x.block < W.heap.size := by obtain ⟨m, hm⟩ := k0; exact DataW.trod_lt m _ _ _ hm
  obtain ⟨a0, i0, rfl⟩ := open_id (hval 0 25 v0 rfl rfl) h0
  have k1 := h1
  have lt1 : ∀ x ∈ p1, x.block < W.heap.size := by obtain ⟨m, hm⟩ := k1; exact DataW.trod_lt m _ _ _ hm
  obtain ⟨a1, i1, rfl⟩ := open_id (hval 1 25 v1 rfl rfl) h1
  have k2 := h2
  have lt2 : ∀ x ∈ p2, x.block < W.heap.size := by obtain ⟨m, hm⟩ := k2; exact DataW.trod_lt m _ _ _ hm
  obtain ⟨a2, i2, rfl⟩ := open_id (hval 2 25 v2 rfl rfl) h2
  clear hA0 hval0
  refine (walk a0 a1 a2 i0 i1 i2 W).mono fun e W' ⟨he, bel⟩ => ?_
  subst he
  exact ⟨_, rfl, _, _, _, [], _, [], hW', trodAll_mk1 (shut_bool Try.underlying4 _), (trodAll_cons_mk (Below.trod laidOut (by kernel_rfl) (of_decide_eq_true (by kernel_rfl)) k0 bel lt0) (trodAll_cons_mk (Below.trod laidOut (by kernel_rfl) (of_decide_eq_true (by kernel_rfl)) k1 bel lt1) (trodAll_cons_mk (Below.trod laidOut (by kernel_rfl) (of_decide_eq_true (by kernel_rfl)) k2 bel lt2) trodAll_mk0))), rfl, bel.frame _, fun h => by cases h⟩

theorem over : Rows.fnBetweenAndInRangeFollowCompareFromRow.holds Try.pinned (OpenSpec.ofChange Rows.fnBetweenAndInRangeFollowCompareFromSpec) :=
  OpenClaim.holds_of_wide 6 Try.f6 rfl rfl rfl rfl rfl rfl rfl ⟨rfl, rfl, rfl, rfl, rfl⟩ rfl rfl rfl rfl rfl (by kernel_rfl) Try.func6 (by kernel_rfl)
    (of_decide_eq_true (by kernel_rfl)) (by unfold Func.isWrapper; first | (rw [if_pos (by decide +kernel)]; kernel_rfl) | (rw [if_neg (by decide +kernel)]; exact ⟨rfl, rfl⟩))
    (fun os started H enc _ => lifted os started H enc)

/-- THE STATEMENT -/
theorem proved : Rows.FnBetweenAndInRangeFollowCompareFromSaid := over
#print axioms proved
end Go.Proofs.Qxb6001691a.fnBetween
