import Derived.Test.Qxb6001692aVars2
import Derived.Test.Qxb6001692aOpen
namespace Go.Proofs.Qxb6001692a.fnMovedOn
open Go.ChangeShapes Go.WideShapes Go.ChangeAt Go.RowKit
set_option linter.unusedVariables false

/-- The plain law: what movedOn answers is what the law spells out. -/
theorem mv_law {A U P I : Int} (hA : Ring A) (hU : Ring U) (hP : Ring P) (hI : Ring I) :
    mvB true A U P I = (decide (dst A P ≤ dst A U) && (!decide (P = U) && (decide (dst A I ≤ dst A U) && !decide (dst P I ≤ dst P U)))) := by
  unfold mvB
  rw [Bool.eq_iff_iff]
  simp only [Bool.true_and, Bool.and_eq_true, decide_eq_true_eq, Bool.not_eq_true', decide_eq_false_iff_not]
  have e : dst A P = dst A U → P = U := dst_inj hA hP hU
  constructor
  · rintro ⟨h1, h2⟩
    refine ⟨by omega, fun h => by rw [h] at h1; omega, by omega, ?_⟩
    unfold dst at *; omega
  · rintro ⟨h1, h2, h3, h4⟩
    have h5 : dst A P < dst A U := by
      rcases Int.lt_or_eq_of_le h1 with h | h
      · exact h
      · exact absurd (e h) h2
    refine ⟨h5, ?_⟩
    unfold dst at *; omega

def edgesB (ops : Array Oper) : Bool := (List.range ops.size).all fun i => ((ops[i]?).map fun o => o.after.all fun e => !Region.binds .any e || decide (e.on < i)).getD true
theorem edges_of {ops : Array Oper} (h : edgesB ops = true) : ∀ i o, ops[i]? = some o → ∀ e ∈ o.after, Region.binds .any e = true → e.on < i := by
  intro i o ho e he hb
  have hi : i < ops.size := (Array.getElem?_eq_some_iff.1 ho).1
  have := (List.all_eq_true.1 h) i (List.mem_range.2 hi)
  rw [ho] at this
  simp only [Option.map_some, Option.getD_some, Array.all_eq_true_iff_forall_mem] at this
  simpa [hb] using this e he

theorem inr_lit (xs us bs : List Int) (hx : Id20 xs) (ha : Id20 us) (hb0 : Id20 bs) (b : Bool) (h : decide (dst (bv us) (bv xs) ≤ dst (bv us) (bv bs)) = b) (w : World) :
    Calls Try.prog 10 #[.agg (idc xs), .agg (idc us), .agg (idc bs)] w fun e w' => e = .returned (.bool b) ∧ Below w.heap.size w w' := by
  subst h; exact zzInRange_any xs us bs hx ha hb0 w
theorem mv_lit (A U P Q I : List Int) (hA : Id20 A) (hU : Id20 U) (k : Bool) (hP : Id20 P) (hQ : Id20 Q) (hI : Id20 I) (b : Bool) (h : mvB k (bv A) (bv U) (bv P) (bv I) = b) (w : World) :
    Calls Try.prog 13 #[.agg (idc A), .agg (idc U), .bool k, .agg (idc P), .agg (idc Q), .agg (idc I)] w fun e w' => e = .returned (.bool b) ∧ Below w.heap.size w w' := by
  subst h; exact zzMovedOn_any A U P Q I hA hU k hP hQ hI w
theorem wpl_neq26g {ops : Array Oper} {rest : List Oper} {o : Oper} {a : Act} {w : World} {Q : Exit → Act → World → Prop} (hgd : Region.wanted o (yielded ops a.tmps) = true) (x y : Operand) (t' : TypeId) (ho : o.op = .binOp .neq 26 x y t')
    (xs ys : List Int) (hx : a.eval x = .agg (idc xs)) (hy : a.eval y = .agg (idc ys)) (ix : Id20 xs) (iy : Id20 ys) (b : Bool) (hb : (!decide (bv xs = bv ys)) = b)
    (h : wpList Try.prog ops Q rest (a.put o.dst (.bool b)) w) : wpList Try.prog ops Q (o :: rest) a w :=
  wpList_step fun K hK => by rw [if_pos hgd]; exact wp_neq26 x y t' ho xs ys hx hy ix iy (hK _ _ (hb ▸ h))

set_option maxRecDepth 100000 in
set_option maxHeartbeats 4000000 in
theorem core_N (A U P Q I : List Int) (hA : Id20 A) (hU : Id20 U) (hP : Id20 P) (hQ : Id20 Q) (hI : Id20 I) (w : World)
    (r0 : mvB false (bv A) (bv U) (bv P) (bv I) = false) :
    Calls Try.prog 6 #[.agg (idc A), .agg (idc U), .bool false, .agg (idc P), .agg (idc Q), .agg (idc I)] w fun e w' => e = .returned (.bool true) ∧ Below w.heap.size w w' := by
  have tb0 : True := trivial
  have tb1 : True := trivial
  have tb2 : True := trivial
  have tb3 : True := trivial
  have tb4 : True := trivial
  go_enter Try.func6, Try.ntmps6
  go_wp2_with (first
    | (have _t := tb0; refine wpl_box rfl _ rfl _ rfl (by assumption) ?_; intro gb0 wb0 hsb0 hbb0 hlb0; clear tb0 _t; simp only [Act.put, List.setIfInBounds_toArray, List.set_cons_zero, List.set_cons_succ])
    | (have _t := tb1; refine wpl_box rfl _ rfl _ rfl (by assumption) ?_; intro gb1 wb1 hsb1 hbb1 hlb1; clear tb1 _t; simp only [Act.put, List.setIfInBounds_toArray, List.set_cons_zero, List.set_cons_succ])
    | (have _t := tb2; refine wpl_box rfl _ rfl _ rfl (by assumption) ?_; intro gb2 wb2 hsb2 hbb2 hlb2; clear tb2 _t; simp only [Act.put, List.setIfInBounds_toArray, List.set_cons_zero, List.set_cons_succ])
    | (have _t := tb3; refine wpl_box rfl _ rfl _ rfl (by assumption) ?_; intro gb3 wb3 hsb3 hbb3 hlb3; clear tb3 _t; simp only [Act.put, List.setIfInBounds_toArray, List.set_cons_zero, List.set_cons_succ])
    | (have _t := tb4; refine wpl_box rfl _ rfl _ rfl (by assumption) ?_; intro gb4 wb4 hsb4 hbb4 hlb4; clear tb4 _t; simp only [Act.put, List.setIfInBounds_toArray, List.set_cons_zero, List.set_cons_succ]))
  refine wp_vars2 (s1 := 6) (s2 := 7) (l1 := 20) (l2 := 21) (v1 := 13) (v2 := 14) (x1 := A) (x2 := U) ⟨rfl, fun j hj => ?_, fun j hj => ?_, fun j hj => ?_⟩ (by simp) (by decide) (by decide) (by decide) rfl ?_ rfl ?_ (edges_of (by kernel_rfl)) ?_
  · exact match j, hj with
    | 0, _ => ⟨_, rfl, rfl, rfl, rfl⟩
    | 1, _ => ⟨_, rfl, rfl, rfl, rfl⟩
  · exact match j, hj with
    | 0, _ => ⟨_, rfl, rfl, rfl, rfl⟩
    | 1, _ => ⟨_, rfl, rfl, rfl, rfl⟩
  · exact match j, hj with
    | 0, _ => ⟨_, rfl, rfl, rfl, rfl, ⟨{ on := 0, ground := .data }, by simp, rfl, rfl⟩, ⟨{ on := 2, ground := .data }, by simp, rfl, rfl⟩⟩
    | 1, _ => ⟨_, rfl, rfl, rfl, rfl, ⟨{ on := 1, ground := .data }, by simp, rfl, rfl⟩, ⟨{ on := 3, ground := .data }, by simp, rfl, rfl⟩⟩
  · ((repeat (first | assumption | (apply Has.via; focus assumption))); done)
  · ((repeat (first | assumption | (apply Has.via; focus assumption))); done)
  intro gA gU w1 HA HU hb1
  simp only [Act.put, List.setIfInBounds_toArray, List.set_cons_zero, List.set_cons_succ]
  go_wp2
  refine wp_vars3 (s1 := 9) (s2 := 10) (s3 := 11) (l1 := 22) (l2 := 23) (l3 := 24) (v1 := 15) (v2 := 16) (v3 := 17) (x1 := P) (x2 := Q) (x3 := I) ⟨rfl, fun j hj => ?_, fun j hj => ?_, fun j hj => ?_⟩ (by simp) (by decide) (by decide) (by decide) (by decide) rfl ?_ rfl ?_ rfl ?_ (edges_of (by kernel_rfl)) ?_
  · exact match j, hj with
    | 0, _ => ⟨_, rfl, rfl, rfl, rfl⟩
    | 1, _ => ⟨_, rfl, rfl, rfl, rfl⟩
    | 2, _ => ⟨_, rfl, rfl, rfl, rfl⟩
  · exact match j, hj with
    | 0, _ => ⟨_, rfl, rfl, rfl, rfl⟩
    | 1, _ => ⟨_, rfl, rfl, rfl, rfl⟩
    | 2, _ => ⟨_, rfl, rfl, rfl, rfl⟩
  · exact match j, hj with
    | 0, _ => ⟨_, rfl, rfl, rfl, rfl, ⟨{ on := 0, ground := .data }, by simp, rfl, rfl⟩, ⟨{ on := 3, ground := .data }, by simp, rfl, rfl⟩⟩
    | 1, _ => ⟨_, rfl, rfl, rfl, rfl, ⟨{ on := 1, ground := .data }, by simp, rfl, rfl⟩, ⟨{ on := 4, ground := .data }, by simp, rfl, rfl⟩⟩
    | 2, _ => ⟨_, rfl, rfl, rfl, rfl, ⟨{ on := 2, ground := .data }, by simp, rfl, rfl⟩, ⟨{ on := 5, ground := .data }, by simp, rfl, rfl⟩⟩
  · ((repeat (first | assumption | (apply Has.via; focus assumption))); done)
  · ((repeat (first | assumption | (apply Has.via; focus assumption))); done)
  · ((repeat (first | assumption | (apply Has.via; focus assumption))); done)
  intro gP gQ gI w2 HP HQ HI hb2
  simp only [Act.put, List.setIfInBounds_toArray, List.set_cons_zero, List.set_cons_succ]
  go_wp2_with (first
    | (refine wpl_load26 rfl _ rfl _ rfl ?_ ?_ ?_; rotate_left; (focus ((repeat (first | assumption | (apply Has.via; focus assumption))); done)); simp only [Act.put, List.setIfInBounds_toArray, List.set_cons_zero, List.set_cons_succ])
    | (refine wpl_load26g rfl _ rfl _ rfl ?_ ?_ ?_; rotate_left; (focus ((repeat (first | assumption | (apply Has.via; focus assumption))); done)); simp only [Act.put, List.setIfInBounds_toArray, List.set_cons_zero, List.set_cons_succ])
    | (go_at_call 12; refine (zzMovedOnNil_any P Q I hP hQ hI _ _).mono ?_; rintro e w' ⟨rfl, hb'⟩)
    | (go_at_call 13; refine (mv_lit A U P Q I hA hU _ hP hQ hI _ r0 _).mono ?_; rintro e w' ⟨rfl, hb'⟩))
  go_ret
  refine ⟨rfl, ?_⟩
  repeat (first | assumption | (apply Below.via; focus assumption))

set_option maxRecDepth 100000 in
set_option maxHeartbeats 4000000 in
theorem core_a (A U P Q I : List Int) (hA : Id20 A) (hU : Id20 U) (hP : Id20 P) (hQ : Id20 Q) (hI : Id20 I) (w : World)
    (r0 : mvB true (bv A) (bv U) (bv P) (bv I) = false)
    (r1 : decide (dst (bv A) (bv P) ≤ dst (bv A) (bv U)) = false) :
    Calls Try.prog 6 #[.agg (idc A), .agg (idc U), .bool true, .agg (idc P), .agg (idc Q), .agg (idc I)] w fun e w' => e = .returned (.bool true) ∧ Below w.heap.size w w' := by
  have tb0 : True := trivial
  have tb1 : True := trivial
  have tb2 : True := trivial
  have tb3 : True := trivial
  have tb4 : True := trivial
  have tq0 : True := trivial
  go_enter Try.func6, Try.ntmps6
  go_wp2_with (first
    | (have _t := tb0; refine wpl_box rfl _ rfl _ rfl (by assumption) ?_; intro gb0 wb0 hsb0 hbb0 hlb0; clear tb0 _t; simp only [Act.put, List.setIfInBounds_toArray, List.set_cons_zero, List.set_cons_succ])
    | (have _t := tb1; refine wpl_box rfl _ rfl _ rfl (by assumption) ?_; intro gb1 wb1 hsb1 hbb1 hlb1; clear tb1 _t; simp only [Act.put, List.setIfInBounds_toArray, List.set_cons_zero, List.set_cons_succ])
    | (have _t := tb2; refine wpl_box rfl _ rfl _ rfl (by assumption) ?_; intro gb2 wb2 hsb2 hbb2 hlb2; clear tb2 _t; simp only [Act.put, List.setIfInBounds_toArray, List.set_cons_zero, List.set_cons_succ])
    | (have _t := tb3; refine wpl_box rfl _ rfl _ rfl (by assumption) ?_; intro gb3 wb3 hsb3 hbb3 hlb3; clear tb3 _t; simp only [Act.put, List.setIfInBounds_toArray, List.set_cons_zero, List.set_cons_succ])
    | (have _t := tb4; refine wpl_box rfl _ rfl _ rfl (by assumption) ?_; intro gb4 wb4 hsb4 hbb4 hlb4; clear tb4 _t; simp only [Act.put, List.setIfInBounds_toArray, List.set_cons_zero, List.set_cons_succ]))
  refine wp_vars2 (s1 := 6) (s2 := 7) (l1 := 20) (l2 := 21) (v1 := 13) (v2 := 14) (x1 := A) (x2 := U) ⟨rfl, fun j hj => ?_, fun j hj => ?_, fun j hj => ?_⟩ (by simp) (by decide) (by decide) (by decide) rfl ?_ rfl ?_ (edges_of (by kernel_rfl)) ?_
  · exact match j, hj with
    | 0, _ => ⟨_, rfl, rfl, rfl, rfl⟩
    | 1, _ => ⟨_, rfl, rfl, rfl, rfl⟩
  · exact match j, hj with
    | 0, _ => ⟨_, rfl, rfl, rfl, rfl⟩
    | 1, _ => ⟨_, rfl, rfl, rfl, rfl⟩
  · exact match j, hj with
    | 0, _ => ⟨_, rfl, rfl, rfl, rfl, ⟨{ on := 0, ground := .data }, by simp, rfl, rfl⟩, ⟨{ on := 2, ground := .data }, by simp, rfl, rfl⟩⟩
    | 1, _ => ⟨_, rfl, rfl, rfl, rfl, ⟨{ on := 1, ground := .data }, by simp, rfl, rfl⟩, ⟨{ on := 3, ground := .data }, by simp, rfl, rfl⟩⟩
  · ((repeat (first | assumption | (apply Has.via; focus assumption))); done)
  · ((repeat (first | assumption | (apply Has.via; focus assumption))); done)
  intro gA gU w1 HA HU hb1
  simp only [Act.put, List.setIfInBounds_toArray, List.set_cons_zero, List.set_cons_succ]
  go_wp2
  refine wp_vars3 (s1 := 9) (s2 := 10) (s3 := 11) (l1 := 22) (l2 := 23) (l3 := 24) (v1 := 15) (v2 := 16) (v3 := 17) (x1 := P) (x2 := Q) (x3 := I) ⟨rfl, fun j hj => ?_, fun j hj => ?_, fun j hj => ?_⟩ (by simp) (by decide) (by decide) (by decide) (by decide) rfl ?_ rfl ?_ rfl ?_ (edges_of (by kernel_rfl)) ?_
  · exact match j, hj with
    | 0, _ => ⟨_, rfl, rfl, rfl, rfl⟩
    | 1, _ => ⟨_, rfl, rfl, rfl, rfl⟩
    | 2, _ => ⟨_, rfl, rfl, rfl, rfl⟩
  · exact match j, hj with
    | 0, _ => ⟨_, rfl, rfl, rfl, rfl⟩
    | 1, _ => ⟨_, rfl, rfl, rfl, rfl⟩
    | 2, _ => ⟨_, rfl, rfl, rfl, rfl⟩
  · exact match j, hj with
    | 0, _ => ⟨_, rfl, rfl, rfl, rfl, ⟨{ on := 0, ground := .data }, by simp, rfl, rfl⟩, ⟨{ on := 3, ground := .data }, by simp, rfl, rfl⟩⟩
    | 1, _ => ⟨_, rfl, rfl, rfl, rfl, ⟨{ on := 1, ground := .data }, by simp, rfl, rfl⟩, ⟨{ on := 4, ground := .data }, by simp, rfl, rfl⟩⟩
    | 2, _ => ⟨_, rfl, rfl, rfl, rfl, ⟨{ on := 2, ground := .data }, by simp, rfl, rfl⟩, ⟨{ on := 5, ground := .data }, by simp, rfl, rfl⟩⟩
  · ((repeat (first | assumption | (apply Has.via; focus assumption))); done)
  · ((repeat (first | assumption | (apply Has.via; focus assumption))); done)
  · ((repeat (first | assumption | (apply Has.via; focus assumption))); done)
  intro gP gQ gI w2 HP HQ HI hb2
  simp only [Act.put, List.setIfInBounds_toArray, List.set_cons_zero, List.set_cons_succ]
  go_wp2_with (first
    | (refine wpl_load26 rfl _ rfl _ rfl ?_ ?_ ?_; rotate_left; (focus ((repeat (first | assumption | (apply Has.via; focus assumption))); done)); simp only [Act.put, List.setIfInBounds_toArray, List.set_cons_zero, List.set_cons_succ])
    | (refine wpl_load26g rfl _ rfl _ rfl ?_ ?_ ?_; rotate_left; (focus ((repeat (first | assumption | (apply Has.via; focus assumption))); done)); simp only [Act.put, List.setIfInBounds_toArray, List.set_cons_zero, List.set_cons_succ])
    | (go_at_call 12; refine (zzMovedOnNil_any P Q I hP hQ hI _ _).mono ?_; rintro e w' ⟨rfl, hb'⟩)
    | (go_at_call 13; refine (mv_lit A U P Q I hA hU _ hP hQ hI _ r0 _).mono ?_; rintro e w' ⟨rfl, hb'⟩)
    | (go_at_call 10; have _t := tq0; refine (inr_lit P A U hP hA hU _ r1 _).mono ?_; rintro e w' ⟨rfl, hb'⟩; clear tq0 _t))
  go_ret
  refine ⟨rfl, ?_⟩
  repeat (first | assumption | (apply Below.via; focus assumption))

set_option maxRecDepth 100000 in
set_option maxHeartbeats 4000000 in
theorem core_b (A U P Q I : List Int) (hA : Id20 A) (hU : Id20 U) (hP : Id20 P) (hQ : Id20 Q) (hI : Id20 I) (w : World)
    (r0 : mvB true (bv A) (bv U) (bv P) (bv I) = false)
    (r1 : decide (dst (bv A) (bv P) ≤ dst (bv A) (bv U)) = true)
    (r2 : (!decide (bv P = bv U)) = false) :
    Calls Try.prog 6 #[.agg (idc A), .agg (idc U), .bool true, .agg (idc P), .agg (idc Q), .agg (idc I)] w fun e w' => e = .returned (.bool true) ∧ Below w.heap.size w w' := by
  have tb0 : True := trivial
  have tb1 : True := trivial
  have tb2 : True := trivial
  have tb3 : True := trivial
  have tb4 : True := trivial
  have tq0 : True := trivial
  go_enter Try.func6, Try.ntmps6
  go_wp2_with (first
    | (have _t := tb0; refine wpl_box rfl _ rfl _ rfl (by assumption) ?_; intro gb0 wb0 hsb0 hbb0 hlb0; clear tb0 _t; simp only [Act.put, List.setIfInBounds_toArray, List.set_cons_zero, List.set_cons_succ])
    | (have _t := tb1; refine wpl_box rfl _ rfl _ rfl (by assumption) ?_; intro gb1 wb1 hsb1 hbb1 hlb1; clear tb1 _t; simp only [Act.put, List.setIfInBounds_toArray, List.set_cons_zero, List.set_cons_succ])
    | (have _t := tb2; refine wpl_box rfl _ rfl _ rfl (by assumption) ?_; intro gb2 wb2 hsb2 hbb2 hlb2; clear tb2 _t; simp only [Act.put, List.setIfInBounds_toArray, List.set_cons_zero, List.set_cons_succ])
    | (have _t := tb3; refine wpl_box rfl _ rfl _ rfl (by assumption) ?_; intro gb3 wb3 hsb3 hbb3 hlb3; clear tb3 _t; simp only [Act.put, List.setIfInBounds_toArray, List.set_cons_zero, List.set_cons_succ])
    | (have _t := tb4; refine wpl_box rfl _ rfl _ rfl (by assumption) ?_; intro gb4 wb4 hsb4 hbb4 hlb4; clear tb4 _t; simp only [Act.put, List.setIfInBounds_toArray, List.set_cons_zero, List.set_cons_succ]))
  refine wp_vars2 (s1 := 6) (s2 := 7) (l1 := 20) (l2 := 21) (v1 := 13) (v2 := 14) (x1 := A) (x2 := U) ⟨rfl, fun j hj => ?_, fun j hj => ?_, fun j hj => ?_⟩ (by simp) (by decide) (by decide) (by decide) rfl ?_ rfl ?_ (edges_of (by kernel_rfl)) ?_
  · exact match j, hj with
    | 0, _ => ⟨_, rfl, rfl, rfl, rfl⟩
    | 1, _ => ⟨_, rfl, rfl, rfl, rfl⟩
  · exact match j, hj with
    | 0, _ => ⟨_, rfl, rfl, rfl, rfl⟩
    | 1, _ => ⟨_, rfl, rfl, rfl, rfl⟩
  · exact match j, hj with
    | 0, _ => ⟨_, rfl, rfl, rfl, rfl, ⟨{ on := 0, ground := .data }, by simp, rfl, rfl⟩, ⟨{ on := 2, ground := .data }, by simp, rfl, rfl⟩⟩
    | 1, _ => ⟨_, rfl, rfl, rfl, rfl, ⟨{ on := 1, ground := .data }, by simp, rfl, rfl⟩, ⟨{ on := 3, ground := .data }, by simp, rfl, rfl⟩⟩
  · ((repeat (first | assumption | (apply Has.via; focus assumption))); done)
  · ((repeat (first | assumption | (apply Has.via; focus assumption))); done)
  intro gA gU w1 HA HU hb1
  simp only [Act.put, List.setIfInBounds_toArray, List.set_cons_zero, List.set_cons_succ]
  go_wp2
  refine wp_vars3 (s1 := 9) (s2 := 10) (s3 := 11) (l1 := 22) (l2 := 23) (l3 := 24) (v1 := 15) (v2 := 16) (v3 := 17) (x1 := P) (x2 := Q) (x3 := I) ⟨rfl, fun j hj => ?_, fun j hj => ?_, fun j hj => ?_⟩ (by simp) (by decide) (by decide) (by decide) (by decide) rfl ?_ rfl ?_ rfl ?_ (edges_of (by kernel_rfl)) ?_
  · exact match j, hj with
    | 0, _ => ⟨_, rfl, rfl, rfl, rfl⟩
    | 1, _ => ⟨_, rfl, rfl, rfl, rfl⟩
    | 2, _ => ⟨_, rfl, rfl, rfl, rfl⟩
  · exact match j, hj with
    | 0, _ => ⟨_, rfl, rfl, rfl, rfl⟩
    | 1, _ => ⟨_, rfl, rfl, rfl, rfl⟩
    | 2, _ => ⟨_, rfl, rfl, rfl, rfl⟩
  · exact match j, hj with
    | 0, _ => ⟨_, rfl, rfl, rfl, rfl, ⟨{ on := 0, ground := .data }, by simp, rfl, rfl⟩, ⟨{ on := 3, ground := .data }, by simp, rfl, rfl⟩⟩
    | 1, _ => ⟨_, rfl, rfl, rfl, rfl, ⟨{ on := 1, ground := .data }, by simp, rfl, rfl⟩, ⟨{ on := 4, ground := .data }, by simp, rfl, rfl⟩⟩
    | 2, _ => ⟨_, rfl, rfl, rfl, rfl, ⟨{ on := 2, ground := .data }, by simp, rfl, rfl⟩, ⟨{ on := 5, ground := .data }, by simp, rfl, rfl⟩⟩
  · ((repeat (first | assumption | (apply Has.via; focus assumption))); done)
  · ((repeat (first | assumption | (apply Has.via; focus assumption))); done)
  · ((repeat (first | assumption | (apply Has.via; focus assumption))); done)
  intro gP gQ gI w2 HP HQ HI hb2
  simp only [Act.put, List.setIfInBounds_toArray, List.set_cons_zero, List.set_cons_succ]
  go_wp2_with (first
    | (refine wpl_load26 rfl _ rfl _ rfl ?_ ?_ ?_; rotate_left; (focus ((repeat (first | assumption | (apply Has.via; focus assumption))); done)); simp only [Act.put, List.setIfInBounds_toArray, List.set_cons_zero, List.set_cons_succ])
    | (refine wpl_load26g rfl _ rfl _ rfl ?_ ?_ ?_; rotate_left; (focus ((repeat (first | assumption | (apply Has.via; focus assumption))); done)); simp only [Act.put, List.setIfInBounds_toArray, List.set_cons_zero, List.set_cons_succ])
    | (refine wpl_neq26g rfl _ _ _ rfl P U rfl rfl hP hU _ r2 ?_; simp only [Act.put, List.setIfInBounds_toArray, List.set_cons_zero, List.set_cons_succ])
    | (go_at_call 12; refine (zzMovedOnNil_any P Q I hP hQ hI _ _).mono ?_; rintro e w' ⟨rfl, hb'⟩)
    | (go_at_call 13; refine (mv_lit A U P Q I hA hU _ hP hQ hI _ r0 _).mono ?_; rintro e w' ⟨rfl, hb'⟩)
    | (go_at_call 10; have _t := tq0; refine (inr_lit P A U hP hA hU _ r1 _).mono ?_; rintro e w' ⟨rfl, hb'⟩; clear tq0 _t))
  go_ret
  refine ⟨rfl, ?_⟩
  repeat (first | assumption | (apply Below.via; focus assumption))

set_option maxRecDepth 100000 in
set_option maxHeartbeats 4000000 in
theorem core_c (A U P Q I : List Int) (hA : Id20 A) (hU : Id20 U) (hP : Id20 P) (hQ : Id20 Q) (hI : Id20 I) (w : World)
    (r0 : mvB true (bv A) (bv U) (bv P) (bv I) = false)
    (r1 : decide (dst (bv A) (bv P) ≤ dst (bv A) (bv U)) = true)
    (r2 : (!decide (bv P = bv U)) = true)
    (r3 : decide (dst (bv A) (bv I) ≤ dst (bv A) (bv U)) = false) :
    Calls Try.prog 6 #[.agg (idc A), .agg (idc U), .bool true, .agg (idc P), .agg (idc Q), .agg (idc I)] w fun e w' => e = .returned (.bool true) ∧ Below w.heap.size w w' := by
  have tb0 : True := trivial
  have tb1 : True := trivial
  have tb2 : True := trivial
  have tb3 : True := trivial
  have tb4 : True := trivial
  have tq0 : True := trivial
  have tq1 : True := trivial
  go_enter Try.func6, Try.ntmps6
  go_wp2_with (first
    | (have _t := tb0; refine wpl_box rfl _ rfl _ rfl (by assumption) ?_; intro gb0 wb0 hsb0 hbb0 hlb0; clear tb0 _t; simp only [Act.put, List.setIfInBounds_toArray, List.set_cons_zero, List.set_cons_succ])
    | (have _t := tb1; refine wpl_box rfl _ rfl _ rfl (by assumption) ?_; intro gb1 wb1 hsb1 hbb1 hlb1; clear tb1 _t; simp only [Act.put, List.setIfInBounds_toArray, List.set_cons_zero, List.set_cons_succ])
    | (have _t := tb2; refine wpl_box rfl _ rfl _ rfl (by assumption) ?_; intro gb2 wb2 hsb2 hbb2 hlb2; clear tb2 _t; simp only [Act.put, List.setIfInBounds_toArray, List.set_cons_zero, List.set_cons_succ])
    | (have _t := tb3; refine wpl_box rfl _ rfl _ rfl (by assumption) ?_; intro gb3 wb3 hsb3 hbb3 hlb3; clear tb3 _t; simp only [Act.put, List.setIfInBounds_toArray, List.set_cons_zero, List.set_cons_succ])
    | (have _t := tb4; refine wpl_box rfl _ rfl _ rfl (by assumption) ?_; intro gb4 wb4 hsb4 hbb4 hlb4; clear tb4 _t; simp only [Act.put, List.setIfInBounds_toArray, List.set_cons_zero, List.set_cons_succ]))
  refine wp_vars2 (s1 := 6) (s2 := 7) (l1 := 20) (l2 := 21) (v1 := 13) (v2 := 14) (x1 := A) (x2 := U) ⟨rfl, fun j hj => ?_, fun j hj => ?_, fun j hj => ?_⟩ (by simp) (by decide) (by decide) (by decide) rfl ?_ rfl ?_ (edges_of (by kernel_rfl)) ?_
  · exact match j, hj with
    | 0, _ => ⟨_, rfl, rfl, rfl, rfl⟩
    | 1, _ => ⟨_, rfl, rfl, rfl, rfl⟩
  · exact match j, hj with
    | 0, _ => ⟨_, rfl, rfl, rfl, rfl⟩
    | 1, _ => ⟨_, rfl, rfl, rfl, rfl⟩
  · exact match j, hj with
    | 0, _ => ⟨_, rfl, rfl, rfl, rfl, ⟨{ on := 0, ground := .data }, by simp, rfl, rfl⟩, ⟨{ on := 2, ground := .data }, by simp, rfl, rfl⟩⟩
    | 1, _ => ⟨_, rfl, rfl, rfl, rfl, ⟨{ on := 1, ground := .data }, by simp, rfl, rfl⟩, ⟨{ on := 3, ground := .data }, by simp, rfl, rfl⟩⟩
  · ((repeat (first | assumption | (apply Has.via; focus assumption))); done)
  · ((repeat (first | assumption | (apply Has.via; focus assumption))); done)
  intro gA gU w1 HA HU hb1
  simp only [Act.put, List.setIfInBounds_toArray, List.set_cons_zero, List.set_cons_succ]
  go_wp2
  refine wp_vars3 (s1 := 9) (s2 := 10) (s3 := 11) (l1 := 22) (l2 := 23) (l3 := 24) (v1 := 15) (v2 := 16) (v3 := 17) (x1 := P) (x2 := Q) (x3 := I) ⟨rfl, fun j hj => ?_, fun j hj => ?_, fun j hj => ?_⟩ (by simp) (by decide) (by decide) (by decide) (by decide) rfl ?_ rfl ?_ rfl ?_ (edges_of (by kernel_rfl)) ?_
  · exact match j, hj with
    | 0, _ => ⟨_, rfl, rfl, rfl, rfl⟩
    | 1, _ => ⟨_, rfl, rfl, rfl, rfl⟩
    | 2, _ => ⟨_, rfl, rfl, rfl, rfl⟩
  · exact match j, hj with
    | 0, _ => ⟨_, rfl, rfl, rfl, rfl⟩
    | 1, _ => ⟨_, rfl, rfl, rfl, rfl⟩
    | 2, _ => ⟨_, rfl, rfl, rfl, rfl⟩
  · exact match j, hj with
    | 0, _ => ⟨_, rfl, rfl, rfl, rfl, ⟨{ on := 0, ground := .data }, by simp, rfl, rfl⟩, ⟨{ on := 3, ground := .data }, by simp, rfl, rfl⟩⟩
    | 1, _ => ⟨_, rfl, rfl, rfl, rfl, ⟨{ on := 1, ground := .data }, by simp, rfl, rfl⟩, ⟨{ on := 4, ground := .data }, by simp, rfl, rfl⟩⟩
    | 2, _ => ⟨_, rfl, rfl, rfl, rfl, ⟨{ on := 2, ground := .data }, by simp, rfl, rfl⟩, ⟨{ on := 5, ground := .data }, by simp, rfl, rfl⟩⟩
  · ((repeat (first | assumption | (apply Has.via; focus assumption))); done)
  · ((repeat (first | assumption | (apply Has.via; focus assumption))); done)
  · ((repeat (first | assumption | (apply Has.via; focus assumption))); done)
  intro gP gQ gI w2 HP HQ HI hb2
  simp only [Act.put, List.setIfInBounds_toArray, List.set_cons_zero, List.set_cons_succ]
  go_wp2_with (first
    | (refine wpl_load26 rfl _ rfl _ rfl ?_ ?_ ?_; rotate_left; (focus ((repeat (first | assumption | (apply Has.via; focus assumption))); done)); simp only [Act.put, List.setIfInBounds_toArray, List.set_cons_zero, List.set_cons_succ])
    | (refine wpl_load26g rfl _ rfl _ rfl ?_ ?_ ?_; rotate_left; (focus ((repeat (first | assumption | (apply Has.via; focus assumption))); done)); simp only [Act.put, List.setIfInBounds_toArray, List.set_cons_zero, List.set_cons_succ])
    | (refine wpl_neq26g rfl _ _ _ rfl P U rfl rfl hP hU _ r2 ?_; simp only [Act.put, List.setIfInBounds_toArray, List.set_cons_zero, List.set_cons_succ])
    | (go_at_call 12; refine (zzMovedOnNil_any P Q I hP hQ hI _ _).mono ?_; rintro e w' ⟨rfl, hb'⟩)
    | (go_at_call 13; refine (mv_lit A U P Q I hA hU _ hP hQ hI _ r0 _).mono ?_; rintro e w' ⟨rfl, hb'⟩)
    | (go_at_call 10; have _t := tq0; refine (inr_lit P A U hP hA hU _ r1 _).mono ?_; rintro e w' ⟨rfl, hb'⟩; clear tq0 _t)
    | (go_at_call 10; have _t := tq1; refine (inr_lit I A U hI hA hU _ r3 _).mono ?_; rintro e w' ⟨rfl, hb'⟩; clear tq1 _t))
  go_ret
  refine ⟨rfl, ?_⟩
  repeat (first | assumption | (apply Below.via; focus assumption))

set_option maxRecDepth 100000 in
set_option maxHeartbeats 4000000 in
theorem core_d (A U P Q I : List Int) (hA : Id20 A) (hU : Id20 U) (hP : Id20 P) (hQ : Id20 Q) (hI : Id20 I) (w : World)
    (r0 : mvB true (bv A) (bv U) (bv P) (bv I) = false)
    (r1 : decide (dst (bv A) (bv P) ≤ dst (bv A) (bv U)) = true)
    (r2 : (!decide (bv P = bv U)) = true)
    (r3 : decide (dst (bv A) (bv I) ≤ dst (bv A) (bv U)) = true)
    (r4 : decide (dst (bv P) (bv I) ≤ dst (bv P) (bv U)) = true) :
    Calls Try.prog 6 #[.agg (idc A), .agg (idc U), .bool true, .agg (idc P), .agg (idc Q), .agg (idc I)] w fun e w' => e = .returned (.bool true) ∧ Below w.heap.size w w' := by
  have tb0 : True := trivial
  have tb1 : True := trivial
  have tb2 : True := trivial
  have tb3 : True := trivial
  have tb4 : True := trivial
  have tq0 : True := trivial
  have tq1 : True := trivial
  have tq2 : True := trivial
  go_enter Try.func6, Try.ntmps6
  go_wp2_with (first
    | (have _t := tb0; refine wpl_box rfl _ rfl _ rfl (by assumption) ?_; intro gb0 wb0 hsb0 hbb0 hlb0; clear tb0 _t; simp only [Act.put, List.setIfInBounds_toArray, List.set_cons_zero, List.set_cons_succ])
    | (have _t := tb1; refine wpl_box rfl _ rfl _ rfl (by assumption) ?_; intro gb1 wb1 hsb1 hbb1 hlb1; clear tb1 _t; simp only [Act.put, List.setIfInBounds_toArray, List.set_cons_zero, List.set_cons_succ])
    | (have _t := tb2; refine wpl_box rfl _ rfl _ rfl (by assumption) ?_; intro gb2 wb2 hsb2 hbb2 hlb2; clear tb2 _t; simp only [Act.put, List.setIfInBounds_toArray, List.set_cons_zero, List.set_cons_succ])
    | (have _t := tb3; refine wpl_box rfl _ rfl _ rfl (by assumption) ?_; intro gb3 wb3 hsb3 hbb3 hlb3; clear tb3 _t; simp only [Act.put, List.setIfInBounds_toArray, List.set_cons_zero, List.set_cons_succ])
    | (have _t := tb4; refine wpl_box rfl _ rfl _ rfl (by assumption) ?_; intro gb4 wb4 hsb4 hbb4 hlb4; clear tb4 _t; simp only [Act.put, List.setIfInBounds_toArray, List.set_cons_zero, List.set_cons_succ]))
  refine wp_vars2 (s1 := 6) (s2 := 7) (l1 := 20) (l2 := 21) (v1 := 13) (v2 := 14) (x1 := A) (x2 := U) ⟨rfl, fun j hj => ?_, fun j hj => ?_, fun j hj => ?_⟩ (by simp) (by decide) (by decide) (by decide) rfl ?_ rfl ?_ (edges_of (by kernel_rfl)) ?_
  · exact match j, hj with
    | 0, _ => ⟨_, rfl, rfl, rfl, rfl⟩
    | 1, _ => ⟨_, rfl, rfl, rfl, rfl⟩
  · exact match j, hj with
    | 0, _ => ⟨_, rfl, rfl, rfl, rfl⟩
    | 1, _ => ⟨_, rfl, rfl, rfl, rfl⟩
  · exact match j, hj with
    | 0, _ => ⟨_, rfl, rfl, rfl, rfl, ⟨{ on := 0, ground := .data }, by simp, rfl, rfl⟩, ⟨{ on := 2, ground := .data }, by simp, rfl, rfl⟩⟩
    | 1, _ => ⟨_, rfl, rfl, rfl, rfl, ⟨{ on := 1, ground := .data }, by simp, rfl, rfl⟩, ⟨{ on := 3, ground := .data }, by simp, rfl, rfl⟩⟩
  · ((repeat (first | assumption | (apply Has.via; focus assumption))); done)
  · ((repeat (first | assumption | (apply Has.via; focus assumption))); done)
  intro gA gU w1 HA HU hb1
  simp only [Act.put, List.setIfInBounds_toArray, List.set_cons_zero, List.set_cons_succ]
  go_wp2
  refine wp_vars3 (s1 := 9) (s2 := 10) (s3 := 11) (l1 := 22) (l2 := 23) (l3 := 24) (v1 := 15) (v2 := 16) (v3 := 17) (x1 := P) (x2 := Q) (x3 := I) ⟨rfl, fun j hj => ?_, fun j hj => ?_, fun j hj => ?_⟩ (by simp) (by decide) (by decide) (by decide) (by decide) rfl ?_ rfl ?_ rfl ?_ (edges_of (by kernel_rfl)) ?_
  · exact match j, hj with
    | 0, _ => ⟨_, rfl, rfl, rfl, rfl⟩
    | 1, _ => ⟨_, rfl, rfl, rfl, rfl⟩
    | 2, _ => ⟨_, rfl, rfl, rfl, rfl⟩
  · exact match j, hj with
    | 0, _ => ⟨_, rfl, rfl, rfl, rfl⟩
    | 1, _ => ⟨_, rfl, rfl, rfl, rfl⟩
    | 2, _ => ⟨_, rfl, rfl, rfl, rfl⟩
  · exact match j, hj with
    | 0, _ => ⟨_, rfl, rfl, rfl, rfl, ⟨{ on := 0, ground := .data }, by simp, rfl, rfl⟩, ⟨{ on := 3, ground := .data }, by simp, rfl, rfl⟩⟩
    | 1, _ => ⟨_, rfl, rfl, rfl, rfl, ⟨{ on := 1, ground := .data }, by simp, rfl, rfl⟩, ⟨{ on := 4, ground := .data }, by simp, rfl, rfl⟩⟩
    | 2, _ => ⟨_, rfl, rfl, rfl, rfl, ⟨{ on := 2, ground := .data }, by simp, rfl, rfl⟩, ⟨{ on := 5, ground := .data }, by simp, rfl, rfl⟩⟩
  · ((repeat (first | assumption | (apply Has.via; focus assumption))); done)
  · ((repeat (first | assumption | (apply Has.via; focus assumption))); done)
  · ((repeat (first | assumption | (apply Has.via; focus assumption))); done)
  intro gP gQ gI w2 HP HQ HI hb2
  simp only [Act.put, List.setIfInBounds_toArray, List.set_cons_zero, List.set_cons_succ]
  go_wp2_with (first
    | (refine wpl_load26 rfl _ rfl _ rfl ?_ ?_ ?_; rotate_left; (focus ((repeat (first | assumption | (apply Has.via; focus assumption))); done)); simp only [Act.put, List.setIfInBounds_toArray, List.set_cons_zero, List.set_cons_succ])
    | (refine wpl_load26g rfl _ rfl _ rfl ?_ ?_ ?_; rotate_left; (focus ((repeat (first | assumption | (apply Has.via; focus assumption))); done)); simp only [Act.put, List.setIfInBounds_toArray, List.set_cons_zero, List.set_cons_succ])
    | (refine wpl_neq26g rfl _ _ _ rfl P U rfl rfl hP hU _ r2 ?_; simp only [Act.put, List.setIfInBounds_toArray, List.set_cons_zero, List.set_cons_succ])
    | (go_at_call 12; refine (zzMovedOnNil_any P Q I hP hQ hI _ _).mono ?_; rintro e w' ⟨rfl, hb'⟩)
    | (go_at_call 13; refine (mv_lit A U P Q I hA hU _ hP hQ hI _ r0 _).mono ?_; rintro e w' ⟨rfl, hb'⟩)
    | (go_at_call 10; have _t := tq0; refine (inr_lit P A U hP hA hU _ r1 _).mono ?_; rintro e w' ⟨rfl, hb'⟩; clear tq0 _t)
    | (go_at_call 10; have _t := tq1; refine (inr_lit I A U hI hA hU _ r3 _).mono ?_; rintro e w' ⟨rfl, hb'⟩; clear tq1 _t)
    | (go_at_call 10; have _t := tq2; refine (inr_lit I P U hI hP hU _ r4 _).mono ?_; rintro e w' ⟨rfl, hb'⟩; clear tq2 _t))
  go_ret
  refine ⟨rfl, ?_⟩
  repeat (first | assumption | (apply Below.via; focus assumption))

set_option maxRecDepth 100000 in
set_option maxHeartbeats 4000000 in
theorem core_e (A U P Q I : List Int) (hA : Id20 A) (hU : Id20 U) (hP : Id20 P) (hQ : Id20 Q) (hI : Id20 I) (w : World)
    (r0 : mvB true (bv A) (bv U) (bv P) (bv I) = true)
    (r1 : decide (dst (bv A) (bv P) ≤ dst (bv A) (bv U)) = true)
    (r2 : (!decide (bv P = bv U)) = true)
    (r3 : decide (dst (bv A) (bv I) ≤ dst (bv A) (bv U)) = true)
    (r4 : decide (dst (bv P) (bv I) ≤ dst (bv P) (bv U)) = false) :
    Calls Try.prog 6 #[.agg (idc A), .agg (idc U), .bool true, .agg (idc P), .agg (idc Q), .agg (idc I)] w fun e w' => e = .returned (.bool true) ∧ Below w.heap.size w w' := by
  have tb0 : True := trivial
  have tb1 : True := trivial
  have tb2 : True := trivial
  have tb3 : True := trivial
  have tb4 : True := trivial
  have tq0 : True := trivial
  have tq1 : True := trivial
  have tq2 : True := trivial
  go_enter Try.func6, Try.ntmps6
  go_wp2_with (first
    | (have _t := tb0; refine wpl_box rfl _ rfl _ rfl (by assumption) ?_; intro gb0 wb0 hsb0 hbb0 hlb0; clear tb0 _t; simp only [Act.put, List.setIfInBounds_toArray, List.set_cons_zero, List.set_cons_succ])
    | (have _t := tb1; refine wpl_box rfl _ rfl _ rfl (by assumption) ?_; intro gb1 wb1 hsb1 hbb1 hlb1; clear tb1 _t; simp only [Act.put, List.setIfInBounds_toArray, List.set_cons_zero, List.set_cons_succ])
    | (have _t := tb2; refine wpl_box rfl _ rfl _ rfl (by assumption) ?_; intro gb2 wb2 hsb2 hbb2 hlb2; clear tb2 _t; simp only [Act.put, List.setIfInBounds_toArray, List.set_cons_zero, List.set_cons_succ])
    | (have _t := tb3; refine wpl_box rfl _ rfl _ rfl (by assumption) ?_; intro gb3 wb3 hsb3 hbb3 hlb3; clear tb3 _t; simp only [Act.put, List.setIfInBounds_toArray, List.set_cons_zero, List.set_cons_succ])
    | (have _t := tb4; refine wpl_box rfl _ rfl _ rfl (by assumption) ?_; intro gb4 wb4 hsb4 hbb4 hlb4; clear tb4 _t; simp only [Act.put, List.setIfInBounds_toArray, List.set_cons_zero, List.set_cons_succ]))
  refine wp_vars2 (s1 := 6) (s2 := 7) (l1 := 20) (l2 := 21) (v1 := 13) (v2 := 14) (x1 := A) (x2 := U) ⟨rfl, fun j hj => ?_, fun j hj => ?_, fun j hj => ?_⟩ (by simp) (by decide) (by decide) (by decide) rfl ?_ rfl ?_ (edges_of (by kernel_rfl)) ?_
  · exact match j, hj with
    | 0, _ => ⟨_, rfl, rfl, rfl, rfl⟩
    | 1, _ => ⟨_, rfl, rfl, rfl, rfl⟩
  · exact match j, hj with
    | 0, _ => ⟨_, rfl, rfl, rfl, rfl⟩
    | 1, _ => ⟨_, rfl, rfl, rfl, rfl⟩
  · exact match j, hj with
    | 0, _ => ⟨_, rfl, rfl, rfl, rfl, ⟨{ on := 0, ground := .data }, by simp, rfl, rfl⟩, ⟨{ on := 2, ground := .data }, by simp, rfl, rfl⟩⟩
    | 1, _ => ⟨_, rfl, rfl, rfl, rfl, ⟨{ on := 1, ground := .data }, by simp, rfl, rfl⟩, ⟨{ on := 3, ground := .data }, by simp, rfl, rfl⟩⟩
  · ((repeat (first | assumption | (apply Has.via; focus assumption))); done)
  · ((repeat (first | assumption | (apply Has.via; focus assumption))); done)
  intro gA gU w1 HA HU hb1
  simp only [Act.put, List.setIfInBounds_toArray, List.set_cons_zero, List.set_cons_succ]
  go_wp2
  refine wp_vars3 (s1 := 9) (s2 := 10) (s3 := 11) (l1 := 22) (l2 := 23) (l3 := 24) (v1 := 15) (v2 := 16) (v3 := 17) (x1 := P) (x2 := Q) (x3 := I) ⟨rfl, fun j hj => ?_, fun j hj => ?_, fun j hj => ?_⟩ (by simp) (by decide) (by decide) (by decide) (by decide) rfl ?_ rfl ?_ rfl ?_ (edges_of (by kernel_rfl)) ?_
  · exact match j, hj with
    | 0, _ => ⟨_, rfl, rfl, rfl, rfl⟩
    | 1, _ => ⟨_, rfl, rfl, rfl, rfl⟩
    | 2, _ => ⟨_, rfl, rfl, rfl, rfl⟩
  · exact match j, hj with
    | 0, _ => ⟨_, rfl, rfl, rfl, rfl⟩
    | 1, _ => ⟨_, rfl, rfl, rfl, rfl⟩
    | 2, _ => ⟨_, rfl, rfl, rfl, rfl⟩
  · exact match j, hj with
    | 0, _ => ⟨_, rfl, rfl, rfl, rfl, ⟨{ on := 0, ground := .data }, by simp, rfl, rfl⟩, ⟨{ on := 3, ground := .data }, by simp, rfl, rfl⟩⟩
    | 1, _ => ⟨_, rfl, rfl, rfl, rfl, ⟨{ on := 1, ground := .data }, by simp, rfl, rfl⟩, ⟨{ on := 4, ground := .data }, by simp, rfl, rfl⟩⟩
    | 2, _ => ⟨_, rfl, rfl, rfl, rfl, ⟨{ on := 2, ground := .data }, by simp, rfl, rfl⟩, ⟨{ on := 5, ground := .data }, by simp, rfl, rfl⟩⟩
  · ((repeat (first | assumption | (apply Has.via; focus assumption))); done)
  · ((repeat (first | assumption | (apply Has.via; focus assumption))); done)
  · ((repeat (first | assumption | (apply Has.via; focus assumption))); done)
  intro gP gQ gI w2 HP HQ HI hb2
  simp only [Act.put, List.setIfInBounds_toArray, List.set_cons_zero, List.set_cons_succ]
  go_wp2_with (first
    | (refine wpl_load26 rfl _ rfl _ rfl ?_ ?_ ?_; rotate_left; (focus ((repeat (first | assumption | (apply Has.via; focus assumption))); done)); simp only [Act.put, List.setIfInBounds_toArray, List.set_cons_zero, List.set_cons_succ])
    | (refine wpl_load26g rfl _ rfl _ rfl ?_ ?_ ?_; rotate_left; (focus ((repeat (first | assumption | (apply Has.via; focus assumption))); done)); simp only [Act.put, List.setIfInBounds_toArray, List.set_cons_zero, List.set_cons_succ])
    | (refine wpl_neq26g rfl _ _ _ rfl P U rfl rfl hP hU _ r2 ?_; simp only [Act.put, List.setIfInBounds_toArray, List.set_cons_zero, List.set_cons_succ])
    | (go_at_call 12; refine (zzMovedOnNil_any P Q I hP hQ hI _ _).mono ?_; rintro e w' ⟨rfl, hb'⟩)
    | (go_at_call 13; refine (mv_lit A U P Q I hA hU _ hP hQ hI _ r0 _).mono ?_; rintro e w' ⟨rfl, hb'⟩)
    | (go_at_call 10; have _t := tq0; refine (inr_lit P A U hP hA hU _ r1 _).mono ?_; rintro e w' ⟨rfl, hb'⟩; clear tq0 _t)
    | (go_at_call 10; have _t := tq1; refine (inr_lit I A U hI hA hU _ r3 _).mono ?_; rintro e w' ⟨rfl, hb'⟩; clear tq1 _t)
    | (go_at_call 10; have _t := tq2; refine (inr_lit I P U hI hP hU _ r4 _).mono ?_; rintro e w' ⟨rfl, hb'⟩; clear tq2 _t))
  go_ret
  refine ⟨rfl, ?_⟩
  repeat (first | assumption | (apply Below.via; focus assumption))

theorem walk (A U : List Int) (k : Bool) (P Q I : List Int) (hA : Id20 A) (hU : Id20 U) (hP : Id20 P) (hQ : Id20 Q) (hI : Id20 I) (w : World) :
    Calls Try.prog 6 #[.agg (idc A), .agg (idc U), .bool k, .agg (idc P), .agg (idc Q), .agg (idc I)] w fun e w' => e = .returned (.bool true) ∧ Below w.heap.size w w' := by
  cases k with
  | false => exact core_N A U P Q I hA hU hP hQ hI w (by simp [mvB])
  | true =>
    have L := mv_law hA.bounds hU.bounds hP.bounds hI.bounds
    cases r1 : decide (dst (bv A) (bv P) ≤ dst (bv A) (bv U)) with
    | false => exact core_a A U P Q I hA hU hP hQ hI w (by rw [L, r1]; rfl) r1
    | true =>
      cases r2 : !decide (bv P = bv U) with
      | false => exact core_b A U P Q I hA hU hP hQ hI w (by rw [L, r1, r2]; rfl) r1 r2
      | true =>
        cases r3 : decide (dst (bv A) (bv I) ≤ dst (bv A) (bv U)) with
        | false => exact core_c A U P Q I hA hU hP hQ hI w (by rw [L, r1, r2, r3]; rfl) r1 r2 r3
        | true =>
          cases r4 : decide (dst (bv P) (bv I) ≤ dst (bv P) (bv U)) with
          | true => exact core_d A U P Q I hA hU hP hQ hI w (by rw [L, r1, r2, r3, r4]; rfl) r1 r2 r3 r4
          | false => exact core_e A U P Q I hA hU hP hQ hI w (by rw [L, r1, r2, r3, r4]; rfl) r1 r2 r3 r4

/-! ### THE ROW's STEP, after the guide's frame -/
set_option maxRecDepth 100000 in
theorem lifted (os : Os) (started : os.Started) (H : Type) (enc : TypeId × Value → H) :
    ReturnsInHanded {} Try.checked os 6 .any (Rows.fnMovedOnIsDepartingMinusNewcomerSpanSpec.pre6 enc Try.prog Try.f6 Rows.fnMovedOnIsDepartingMinusNewcomerSpanRow.domain false) (Rows.fnMovedOnIsDepartingMinusNewcomerSpanSpec.post enc Try.prog Try.f6 false true false false) := by
  refine returnsInHanded_of_change (C := Try.checked) own started (by kernel_rfl) Try.func6
    (ChangeSpec.witness6 (enc := enc) (C := Try.checked) false ⟨#[], #[.agg (idc zeros), .agg (idc zeros), .bool false, .agg (idc zeros), .agg (idc zeros), .agg (idc zeros)], []⟩ 8 (by kernel_rfl) (by kernel_rfl) (by kernel_rfl) (by kernel_rfl)) ?_
  intro W base args ds gs before hval0 hW hcnd _
  have hval : ∀ (j : Nat) t v, Try.f6.params[j]? = some t → args[j]? = some v → Value.okWide Try.prog W .any base t v := hval0
  have hW' := hW
  obtain ⟨p, q, hA0, hV, rfl, hfz, hnd⟩ := hW
  have hA : DataW.TrodAll enc Try.prog W 0 (fun _ => true) true Try.f6.params.toList args.toList ds p := hA0
  rw [Try.params6] at hA hval
  obtain ⟨v0, vs0, d0, ds0, p0, q0, hargs, rfl, rfl, h0, r0⟩ := trodAll_cons hA
  obtain ⟨v1, vs1, d1, ds1, p1, q1, rfl, rfl, rfl, h1, r1⟩ := trodAll_cons r0
  obtain ⟨v2, vs2, d2, ds2, p2, q2, rfl, rfl, rfl, h2, r2⟩ := trodAll_cons r1
  obtain ⟨v3, vs3, d3, ds3, p3, q3, rfl, rfl, rfl, h3, r3⟩ := trodAll_cons r2
  obtain ⟨v4, vs4, d4, ds4, p4, q4, rfl, rfl, rfl, h4, r4⟩ := trodAll_cons r3
  obtain ⟨v5, vs5, d5, ds5, p5, q5, rfl, rfl, rfl, h5, r5⟩ := trodAll_cons r4
  obtain ⟨rfl, rfl, rfl⟩ := trodAll_nil r5
  obtain rfl : args = #[v0, v1, v2, v3, v4, v5] := by cases args; simp_all
  obtain ⟨rfl, rfl⟩ := trodVars_none hV
  have k0 := h0
  have lt0 : ∀ x ∈ p0, x.block < W.heap.size := by obtain ⟨m, hm⟩ := k0; exact DataW.trod_lt m _ _ _ hm
  obtain ⟨a0, i0, rfl⟩ := open_id (hval 0 22 v0 rfl rfl) h0
  have k1 := h1
  have lt1 : ∀ x ∈ p1, x.block < W.heap.size := by obtain ⟨m, hm⟩ := k1; exact DataW.trod_lt m _ _ _ hm
  obtain ⟨a1, i1, rfl⟩ := open_id (hval 1 22 v1 rfl rfl) h1
  have k2 := h2
  have lt2 : ∀ x ∈ p2, x.block < W.heap.size := by obtain ⟨m, hm⟩ := k2; exact DataW.trod_lt m _ _ _ hm
  obtain ⟨a2, rfl, rfl, rfl⟩ := open_bool Try.underlying4 (hval 2 4 v2 rfl rfl) h2
  have k3 := h3
  have lt3 : ∀ x ∈ p3, x.block < W.heap.size := by obtain ⟨m, hm⟩ := k3; exact DataW.trod_lt m _ _ _ hm
  obtain ⟨a3, i3, rfl⟩ := open_id (hval 3 22 v3 rfl rfl) h3
  have k4 := h4
  have lt4 : ∀ x ∈ p4, x.block < W.heap.size := by obtain ⟨m, hm⟩ := k4; exact DataW.trod_lt m _ _ _ hm
  obtain ⟨a4, i4, rfl⟩ := open_id (hval 4 22 v4 rfl rfl) h4
  have k5 := h5
  have lt5 : ∀ x ∈ p5, x.block < W.heap.size := by obtain ⟨m, hm⟩ := k5; exact DataW.trod_lt m _ _ _ hm
  obtain ⟨a5, i5, rfl⟩ := open_id (hval 5 22 v5 rfl rfl) h5
  clear hA0 hval0
  refine (walk a0 a1 a2 a3 a4 a5 i0 i1  i3 i4 i5 W).mono fun e W' ⟨he, bel⟩ => ?_
  subst he
  exact ⟨_, rfl, _, _, _, [], _, [], hW', trodAll_mk1 (shut_bool Try.underlying4 _), (trodAll_cons_mk (Below.trod laidOut (by kernel_rfl) (of_decide_eq_true (by kernel_rfl)) k0 bel lt0) (trodAll_cons_mk (Below.trod laidOut (by kernel_rfl) (of_decide_eq_true (by kernel_rfl)) k1 bel lt1) (trodAll_cons_mk (Below.trod laidOut (by kernel_rfl) (of_decide_eq_true (by kernel_rfl)) k2 bel lt2) (trodAll_cons_mk (Below.trod laidOut (by kernel_rfl) (of_decide_eq_true (by kernel_rfl)) k3 bel lt3) (trodAll_cons_mk (Below.trod laidOut (by kernel_rfl) (of_decide_eq_true (by kernel_rfl)) k4 bel lt4) (trodAll_cons_mk (Below.trod laidOut (by kernel_rfl) (of_decide_eq_true (by kernel_rfl)) k5 bel lt5) trodAll_mk0)))))), rfl, bel.frame _, fun h => by cases h⟩

theorem over : Rows.fnMovedOnIsDepartingMinusNewcomerSpanRow.holds Try.pinned (OpenSpec.ofChange Rows.fnMovedOnIsDepartingMinusNewcomerSpanSpec) :=
  OpenClaim.holds_of_wide 6 Try.f6 rfl rfl rfl rfl rfl rfl rfl ⟨rfl, rfl, rfl, rfl, rfl⟩ rfl rfl rfl rfl rfl (by kernel_rfl) Try.func6 (by kernel_rfl)
    (of_decide_eq_true (by kernel_rfl)) (by unfold Func.isWrapper; first | (rw [if_pos (by decide +kernel)]; kernel_rfl) | (rw [if_neg (by decide +kernel)]; exact ⟨rfl, rfl⟩))
    (fun os started H enc _ => lifted os started H enc)

/-- THE STATEMENT -/
theorem proved : Rows.FnMovedOnIsDepartingMinusNewcomerSpanSaid := over
#print axioms proved
end Go.Proofs.Qxb6001692a.fnMovedOn
