import Derived.Test.Qxb6001691aEnc
import Derived.Test.Qxb6001691aReg
import Derived.Test.Qxb6001691aOpen
namespace Go.Proofs.Qxb6001691a.fnFinger
open Go.ChangeShapes Go.WideShapes Go.ChangeAt Go.RowKit
set_option linter.unusedVariables false

theorem inr_lit (xs us bs : List Int) (hx : Id20 xs) (ha : Id20 us) (hb0 : Id20 bs) (b : Bool) (h : decide (dst (bv us) (bv xs) ≤ dst (bv us) (bv bs)) = b) (w : World) :
    Calls Try.prog 13 #[.agg (idc xs), .agg (idc us), .agg (idc bs)] w fun e w' => e = .returned (.bool b) ∧ Below w.heap.size w w' := by
  subst h; exact zzInRange_any xs us bs hx ha hb0 w

/-! ### the plain facts -/
theorem comm_jk (us : List Int) (j k : Nat) : (!decide (bv (ppL (ppL us j) k) = bv (ppL (ppL us k) j))) = false := by
  have : bv (ppL (ppL us j) k) = bv (ppL (ppL us k) j) := by simp only [ppL_bv]; omega
  simp [this]
theorem twice (us : List Int) (k : Nat) : (!decide (bv (ppL (ppL us k) k) = bv (ppL us (k + 1)))) = false := by
  have : bv (ppL (ppL us k) k) = bv (ppL us (k + 1)) := by simp only [ppL_bv, Int.pow_succ]; omega
  simp [this]
theorem twice_last (us : List Int) (hu : Id20 us) : (!decide (bv (ppL (ppL us 159) 159) = bv us)) = false := by
  have : bv (ppL (ppL us 159) 159) = bv us := by
    have := hu.bounds
    simp only [ppL_bv, two159]; omega
  simp [this]
theorem bits_ak (us : List Int) (hu : Id20 us) (k : Nat) (hk : k < 160) : Bits ((bv (ppL us k) - bv us) % 1461501637330902918203684832716283019655932542976) (k + 1) := by
  rw [ppL_bv]; exact bits_pow hu.bounds hk
theorem fin_in (us ts : List Int) (hu : Id20 us) (ht : Id20 ts) (r m : Nat) (hm : m < 160) (hB : Bits ((bv ts - bv us) % 1461501637330902918203684832716283019655932542976) r) :
    decide (dst (bv us) (bv (ppL us m)) ≤ dst (bv us) (bv ts)) = decide (m < r) := by
  rw [ppL_bv]; exact finger_in hu.bounds ht.bounds hm hB

set_option maxRecDepth 100000 in
set_option maxHeartbeats 4000000 in
theorem core_lt (us ts : List Int) (hu : Id20 us) (ht : Id20 ts) (j k : Nat) (hj : j < 160) (hk : k < 159) (r : Nat) (hB : Bits ((bv ts - bv us) % 1461501637330902918203684832716283019655932542976) r) (hr : r ≤ 160) (w : World) :
    Calls Try.prog 4 #[.agg (idc us), .agg (idc ts), .int .i64 (j : Int), .int .i64 (k : Int)] w fun e w' => e = .returned (.bool true) ∧ Below w.heap.size w w' := by
  have tb0 : True := trivial
  have tb1 : True := trivial
  have tv0 : True := trivial
  have tv1 : True := trivial
  have tv2 : True := trivial
  have tv3 : True := trivial
  have tv4 : True := trivial
  have tv5 : True := trivial
  have tc0 : True := trivial
  have tc1 : True := trivial
  have hk' : k < 160 := by omega
  have h1 := comm_jk us j k
  have h2 := twice us k
  have hB1 := bits_ak us hu k hk'
  go_enter Try.func4, Try.ntmps4
  go_wp2_with (first
    | (have _t := tb0; refine wpl_box rfl _ rfl _ rfl (by assumption) ?_; intro gb0 wb0 hsb0 hbb0 hlb0; clear tb0 _t; simp only [Act.put, List.setIfInBounds_toArray, List.set_cons_zero, List.set_cons_succ])
    | (have _t := tb1; refine wpl_box rfl _ rfl _ rfl (by assumption) ?_; intro gb1 wb1 hsb1 hbb1 hlb1; clear tb1 _t; simp only [Act.put, List.setIfInBounds_toArray, List.set_cons_zero, List.set_cons_succ])
    | (refine wpl_load25 rfl _ rfl _ rfl ?_ ?_ ?_; rotate_left; (focus ((repeat (first | assumption | (apply Has.via; focus assumption))); done)); simp only [Act.put, List.setIfInBounds_toArray, List.set_cons_zero, List.set_cons_succ])
    | (refine wpl_load26 rfl _ rfl _ rfl ?_ ?_ ?_; rotate_left; (focus ((repeat (first | assumption | (apply Has.via; focus assumption))); done)); simp only [Act.put, List.setIfInBounds_toArray, List.set_cons_zero, List.set_cons_succ])
    | (have _t := tv0; refine wpl_var26 rfl rfl _ rfl rfl rfl _ rfl rfl rfl _ rfl ?_ ?_; (focus (first | assumption | exact ppL_id _ _)); intro gv0 wv0 hsv0 hbv0 hlv0; clear tv0 _t; simp only [Act.put, List.setIfInBounds_toArray, List.set_cons_zero, List.set_cons_succ])
    | (have _t := tv1; refine wpl_var26 rfl rfl _ rfl rfl rfl _ rfl rfl rfl _ rfl ?_ ?_; (focus (first | assumption | exact ppL_id _ _)); intro gv1 wv1 hsv1 hbv1 hlv1; clear tv1 _t; simp only [Act.put, List.setIfInBounds_toArray, List.set_cons_zero, List.set_cons_succ])
    | (have _t := tv2; refine wpl_var26 rfl rfl _ rfl rfl rfl _ rfl rfl rfl _ rfl ?_ ?_; (focus (first | assumption | exact ppL_id _ _)); intro gv2 wv2 hsv2 hbv2 hlv2; clear tv2 _t; simp only [Act.put, List.setIfInBounds_toArray, List.set_cons_zero, List.set_cons_succ])
    | (have _t := tv3; refine wpl_var26 rfl rfl _ rfl rfl rfl _ rfl rfl rfl _ rfl ?_ ?_; (focus (first | assumption | exact ppL_id _ _)); intro gv3 wv3 hsv3 hbv3 hlv3; clear tv3 _t; simp only [Act.put, List.setIfInBounds_toArray, List.set_cons_zero, List.set_cons_succ])
    | (have _t := tv4; refine wpl_var26 rfl rfl _ rfl rfl rfl _ rfl rfl rfl _ rfl ?_ ?_; (focus (first | assumption | exact ppL_id _ _)); intro gv4 wv4 hsv4 hbv4 hlv4; clear tv4 _t; simp only [Act.put, List.setIfInBounds_toArray, List.set_cons_zero, List.set_cons_succ])
    | (have _t := tv5; refine wpl_var26 rfl rfl _ rfl rfl rfl _ rfl rfl rfl _ rfl ?_ ?_; (focus (first | assumption | exact ppL_id _ _)); intro gv5 wv5 hsv5 hbv5 hlv5; clear tv5 _t; simp only [Act.put, List.setIfInBounds_toArray, List.set_cons_zero, List.set_cons_succ])
    | (go_at_call 11; refine (zzPlusPower_fn _ ?_ _ ?_ _).mono ?_; (focus (first | assumption | exact ppL_id _ _)); (focus assumption); rintro e w' ⟨rfl, hb'⟩)
    | (refine wpl_neq26 rfl _ _ _ rfl (ppL (ppL us j) k) (ppL (ppL us k) j) rfl rfl (ppL_id _ _) (ppL_id _ _) _ h1 ?_; simp only [Act.put, List.setIfInBounds_toArray, List.set_cons_zero, List.set_cons_succ]))
  have Hu5 : Has wv5 gv0 us := by ((repeat (first | assumption | (apply Has.via; focus assumption))); done)
  refine wp_region_ext (by kernel_rfl) (by kernel_rfl) ?_
  refine wq_load26 rfl _ rfl gv5 rfl (ppL (ppL us k) k) hsv5 ?_
  simp only [Act.put, List.setIfInBounds_toArray, List.set_cons_zero, List.set_cons_succ]
  refine wq_load26 rfl _ rfl gv0 rfl us Hu5 ?_
  simp only [Act.put, List.setIfInBounds_toArray, List.set_cons_zero, List.set_cons_succ]
  refine wq_val rfl (.int .i64 (k : Int)) (fun _ => run_move rfl rfl) ?_
  simp only [Act.put, List.setIfInBounds_toArray, List.set_cons_zero, List.set_cons_succ]
  refine wq_val rfl (.int .i64 ((k + 1 : Nat) : Int)) (fun _ => run_add rfl rfl rfl (by rw [IntKind.wrap_i64]; omega)) ?_
  simp only [Act.put, List.setIfInBounds_toArray, List.set_cons_zero, List.set_cons_succ]
  refine wq_call rfl (.agg (idc (ppL us (k + 1)))) 11 #[.agg (idc us), .int .i64 ((k + 1 : Nat) : Int)] (fun _ => run_call rfl rfl (by simp [Act.eval]) Try.func11 (by kernel_rfl) (by kernel_rfl)) (fun W _ => zzPlusPower_fn us hu (k + 1) (by omega) W) ?_
  simp only [Act.put, List.setIfInBounds_toArray, List.set_cons_zero, List.set_cons_succ]
  refine wq_val rfl (.bool false) (fun _ => run_neq26 rfl rfl rfl (ppL_id _ _) (ppL_id _ _) h2) ?_
  simp only [Act.put, List.setIfInBounds_toArray, List.set_cons_zero, List.set_cons_succ]
  refine wq_nil ?_
  intro w6 hb6
  have hb6' : Below wv5.heap.size wv5 w6 := hb6
  go_wp2_with (first
    | (refine wpl_load26 rfl _ rfl _ rfl ?_ ?_ ?_; rotate_left; (focus ((repeat (first | assumption | (apply Has.via; focus assumption))); done)); simp only [Act.put, List.setIfInBounds_toArray, List.set_cons_zero, List.set_cons_succ])
    | (go_at_call 12; have _t := tc0; refine (zzStartsUpTo_lit us (ppL us k) hu (ppL_id _ _) (k + 1) hB1 _).mono ?_; rintro e w' ⟨rfl, hb'⟩; clear tc0 _t)
    | (go_at_call 12; have _t := tc1; refine (zzStartsUpTo_lit us us hu hu 160 bits_self _).mono ?_; rintro e w' ⟨rfl, hb'⟩; clear tc1 _t))
  have HA : Has w' gv0 us := by ((repeat (first | assumption | (apply Has.via; focus assumption))); done)
  have HT : Has w' gv1 ts := by ((repeat (first | assumption | (apply Has.via; focus assumption))); done)
  have HW : Below w.heap.size w w' := by ((repeat (first | assumption | (apply Below.via; focus assumption))); done)
  clear hsb0 hbb0 hlb0 hsb1 hbb1 hlb1 hsv0 hbv0 hlv0 hsv1 hbv1 hlv1 hsv2 hbv2 hlv2 hsv3 hbv3 hlv3 hsv4 hbv4 hlv4 hsv5 hbv5 hlv5 h1 h2 hB1 hb6 hb6' Hu5
  go_loopw [15, 16] (fun n i wr => ∃ m : Nat, m ≤ 160 ∧ n = .int .i64 ((min m r : Nat) : Int) ∧ i = .int .i64 (m : Int) ∧ Has wr gv0 us ∧ Has wr gv1 ts ∧ Below w.heap.size w wr) (fun _ i _ => (160 - intOf i).toNat)
  case atStart => exact ⟨0, by omega, by simp, rfl, HA, HT, HW⟩
  case round =>
    obtain ⟨m, hm0, rfl, rfl, ha0, ht0, hbr⟩ := hrel
    clear HA HT HW
    by_cases hm : m < 160
    · have hmr : min m r ≤ 160 := by omega
      by_cases hlt : m < r
      · have hin : decide (dst (bv us) (bv (ppL us m)) ≤ dst (bv us) (bv ts)) = true := by rw [fin_in us ts hu ht r m hm hB]; simpa using hlt
        go_wp2
        refine wp_region_ext (by kernel_rfl) (by kernel_rfl) ?_
        refine wq_load26 rfl _ rfl gv0 rfl us ha0 ?_
        simp only [Act.put, List.setIfInBounds_toArray, List.set_cons_zero, List.set_cons_succ]
        refine wq_val rfl (.int .i64 (m : Int)) (fun _ => run_move rfl rfl) ?_
        simp only [Act.put, List.setIfInBounds_toArray, List.set_cons_zero, List.set_cons_succ]
        refine wq_call rfl (.agg (idc (ppL us m))) 11 #[.agg (idc us), .int .i64 (m : Int)] (fun _ => run_call rfl rfl (by simp [Act.eval]) Try.func11 (by kernel_rfl) (by kernel_rfl)) (fun W _ => zzPlusPower_fn us hu m hm W) ?_
        simp only [Act.put, List.setIfInBounds_toArray, List.set_cons_zero, List.set_cons_succ]
        refine wq_load26 rfl _ rfl gv0 rfl us ha0 ?_
        simp only [Act.put, List.setIfInBounds_toArray, List.set_cons_zero, List.set_cons_succ]
        refine wq_load26 rfl _ rfl gv1 rfl ts ht0 ?_
        simp only [Act.put, List.setIfInBounds_toArray, List.set_cons_zero, List.set_cons_succ]
        refine wq_call rfl (.bool true) 13 #[.agg (idc (ppL us m)), .agg (idc us), .agg (idc ts)] (fun _ => run_call rfl rfl (by simp [Act.eval]) Try.func13 (by kernel_rfl) (by kernel_rfl)) (fun W _ => inr_lit (ppL us m) us ts (ppL_id _ _) hu ht true hin W) ?_
        simp only [Act.put, List.setIfInBounds_toArray, List.set_cons_zero, List.set_cons_succ]
        refine wq_nil ?_
        intro w2 hb2
        have hb2' : Below wr.heap.size wr w2 := hb2
        go_wp2
        go_roundw
        case rel => exact ⟨m + 1, by omega, by rw [show min m r = m by omega, show min (m + 1) r = m + 1 by omega]; go_num, by go_num, ha0.below' hb2', ht0.below' hb2', Below.chain hbr hb2'⟩
        case measure => simp [intOf]; omega
      · have hin : decide (dst (bv us) (bv (ppL us m)) ≤ dst (bv us) (bv ts)) = false := by rw [fin_in us ts hu ht r m hm hB]; simpa using hlt
        go_wp2
        refine wp_region_ext (by kernel_rfl) (by kernel_rfl) ?_
        refine wq_load26 rfl _ rfl gv0 rfl us ha0 ?_
        simp only [Act.put, List.setIfInBounds_toArray, List.set_cons_zero, List.set_cons_succ]
        refine wq_val rfl (.int .i64 (m : Int)) (fun _ => run_move rfl rfl) ?_
        simp only [Act.put, List.setIfInBounds_toArray, List.set_cons_zero, List.set_cons_succ]
        refine wq_call rfl (.agg (idc (ppL us m))) 11 #[.agg (idc us), .int .i64 (m : Int)] (fun _ => run_call rfl rfl (by simp [Act.eval]) Try.func11 (by kernel_rfl) (by kernel_rfl)) (fun W _ => zzPlusPower_fn us hu m hm W) ?_
        simp only [Act.put, List.setIfInBounds_toArray, List.set_cons_zero, List.set_cons_succ]
        refine wq_load26 rfl _ rfl gv0 rfl us ha0 ?_
        simp only [Act.put, List.setIfInBounds_toArray, List.set_cons_zero, List.set_cons_succ]
        refine wq_load26 rfl _ rfl gv1 rfl ts ht0 ?_
        simp only [Act.put, List.setIfInBounds_toArray, List.set_cons_zero, List.set_cons_succ]
        refine wq_call rfl (.bool false) 13 #[.agg (idc (ppL us m)), .agg (idc us), .agg (idc ts)] (fun _ => run_call rfl rfl (by simp [Act.eval]) Try.func13 (by kernel_rfl) (by kernel_rfl)) (fun W _ => inr_lit (ppL us m) us ts (ppL_id _ _) hu ht false hin W) ?_
        simp only [Act.put, List.setIfInBounds_toArray, List.set_cons_zero, List.set_cons_succ]
        refine wq_nil ?_
        intro w2 hb2
        have hb2' : Below wr.heap.size wr w2 := hb2
        go_wp2
        go_roundw
        case rel => exact ⟨m + 1, by omega, by rw [show min m r = r by omega, show min (m + 1) r = r by omega], by go_num, ha0.below' hb2', ht0.below' hb2', Below.chain hbr hb2'⟩
        case measure => simp [intOf]; omega
    · have hm160 : m = 160 := by omega
      subst hm160
      have hmr : min 160 r = r := by omega
      rw [hmr]
      clear hmr
      go_wp2_with (first
        | (refine wpl_load26 rfl _ rfl _ rfl ?_ ?_ ?_; rotate_left; (focus ((repeat (first | assumption | (apply Has.via; focus assumption))); done)); simp only [Act.put, List.setIfInBounds_toArray, List.set_cons_zero, List.set_cons_succ])
        | (go_at_call 12; refine (zzStartsUpTo_lit us ts hu ht r hB _).mono ?_; rintro e w' ⟨rfl, hb'⟩))
      go_ret
      refine ⟨by simp, ?_⟩
      repeat (first | assumption | (apply Below.via; focus assumption))

set_option maxRecDepth 100000 in
set_option maxHeartbeats 4000000 in
theorem core_eq (us ts : List Int) (hu : Id20 us) (ht : Id20 ts) (j k : Nat) (hj : j < 160) (hk : k < 160) (hk2 : 159 ≤ k) (r : Nat) (hB : Bits ((bv ts - bv us) % 1461501637330902918203684832716283019655932542976) r) (hr : r ≤ 160) (w : World) :
    Calls Try.prog 4 #[.agg (idc us), .agg (idc ts), .int .i64 (j : Int), .int .i64 (k : Int)] w fun e w' => e = .returned (.bool true) ∧ Below w.heap.size w w' := by
  have tb0 : True := trivial
  have tb1 : True := trivial
  have tv0 : True := trivial
  have tv1 : True := trivial
  have tv2 : True := trivial
  have tv3 : True := trivial
  have tv4 : True := trivial
  have tv5 : True := trivial
  have tc0 : True := trivial
  have tc1 : True := trivial
  have h1 := comm_jk us j k
  have h2 : (!decide (bv (ppL (ppL us k) k) = bv us)) = false := by
    have : k = 159 := by omega
    subst this
    exact twice_last us hu
  have hB1 := bits_ak us hu k hk
  go_enter Try.func4, Try.ntmps4
  go_wp2_with (first
    | (have _t := tb0; refine wpl_box rfl _ rfl _ rfl (by assumption) ?_; intro gb0 wb0 hsb0 hbb0 hlb0; clear tb0 _t; simp only [Act.put, List.setIfInBounds_toArray, List.set_cons_zero, List.set_cons_succ])
    | (have _t := tb1; refine wpl_box rfl _ rfl _ rfl (by assumption) ?_; intro gb1 wb1 hsb1 hbb1 hlb1; clear tb1 _t; simp only [Act.put, List.setIfInBounds_toArray, List.set_cons_zero, List.set_cons_succ])
    | (refine wpl_load25 rfl _ rfl _ rfl ?_ ?_ ?_; rotate_left; (focus ((repeat (first | assumption | (apply Has.via; focus assumption))); done)); simp only [Act.put, List.setIfInBounds_toArray, List.set_cons_zero, List.set_cons_succ])
    | (refine wpl_load26 rfl _ rfl _ rfl ?_ ?_ ?_; rotate_left; (focus ((repeat (first | assumption | (apply Has.via; focus assumption))); done)); simp only [Act.put, List.setIfInBounds_toArray, List.set_cons_zero, List.set_cons_succ])
    | (have _t := tv0; refine wpl_var26 rfl rfl _ rfl rfl rfl _ rfl rfl rfl _ rfl ?_ ?_; (focus (first | assumption | exact ppL_id _ _)); intro gv0 wv0 hsv0 hbv0 hlv0; clear tv0 _t; simp only [Act.put, List.setIfInBounds_toArray, List.set_cons_zero, List.set_cons_succ])
    | (have _t := tv1; refine wpl_var26 rfl rfl _ rfl rfl rfl _ rfl rfl rfl _ rfl ?_ ?_; (focus (first | assumption | exact ppL_id _ _)); intro gv1 wv1 hsv1 hbv1 hlv1; clear tv1 _t; simp only [Act.put, List.setIfInBounds_toArray, List.set_cons_zero, List.set_cons_succ])
    | (have _t := tv2; refine wpl_var26 rfl rfl _ rfl rfl rfl _ rfl rfl rfl _ rfl ?_ ?_; (focus (first | assumption | exact ppL_id _ _)); intro gv2 wv2 hsv2 hbv2 hlv2; clear tv2 _t; simp only [Act.put, List.setIfInBounds_toArray, List.set_cons_zero, List.set_cons_succ])
    | (have _t := tv3; refine wpl_var26 rfl rfl _ rfl rfl rfl _ rfl rfl rfl _ rfl ?_ ?_; (focus (first | assumption | exact ppL_id _ _)); intro gv3 wv3 hsv3 hbv3 hlv3; clear tv3 _t; simp only [Act.put, List.setIfInBounds_toArray, List.set_cons_zero, List.set_cons_succ])
    | (have _t := tv4; refine wpl_var26 rfl rfl _ rfl rfl rfl _ rfl rfl rfl _ rfl ?_ ?_; (focus (first | assumption | exact ppL_id _ _)); intro gv4 wv4 hsv4 hbv4 hlv4; clear tv4 _t; simp only [Act.put, List.setIfInBounds_toArray, List.set_cons_zero, List.set_cons_succ])
    | (have _t := tv5; refine wpl_var26 rfl rfl _ rfl rfl rfl _ rfl rfl rfl _ rfl ?_ ?_; (focus (first | assumption | exact ppL_id _ _)); intro gv5 wv5 hsv5 hbv5 hlv5; clear tv5 _t; simp only [Act.put, List.setIfInBounds_toArray, List.set_cons_zero, List.set_cons_succ])
    | (go_at_call 11; refine (zzPlusPower_fn _ ?_ _ ?_ _).mono ?_; (focus (first | assumption | exact ppL_id _ _)); (focus assumption); rintro e w' ⟨rfl, hb'⟩)
    | (refine wpl_neq26 rfl _ _ _ rfl (ppL (ppL us j) k) (ppL (ppL us k) j) rfl rfl (ppL_id _ _) (ppL_id _ _) _ h1 ?_; simp only [Act.put, List.setIfInBounds_toArray, List.set_cons_zero, List.set_cons_succ])
    | (refine wpl_neq26 rfl _ _ _ rfl (ppL (ppL us k) k) us rfl rfl (ppL_id _ _) hu _ h2 ?_; simp only [Act.put, List.setIfInBounds_toArray, List.set_cons_zero, List.set_cons_succ])
    | (go_at_call 12; have _t := tc0; refine (zzStartsUpTo_lit us (ppL us k) hu (ppL_id _ _) (k + 1) hB1 _).mono ?_; rintro e w' ⟨rfl, hb'⟩; clear tc0 _t)
    | (go_at_call 12; have _t := tc1; refine (zzStartsUpTo_lit us us hu hu 160 bits_self _).mono ?_; rintro e w' ⟨rfl, hb'⟩; clear tc1 _t))
  have HA : Has w' gv0 us := by ((repeat (first | assumption | (apply Has.via; focus assumption))); done)
  have HT : Has w' gv1 ts := by ((repeat (first | assumption | (apply Has.via; focus assumption))); done)
  have HW : Below w.heap.size w w' := by ((repeat (first | assumption | (apply Below.via; focus assumption))); done)
  clear hsb0 hbb0 hlb0 hsb1 hbb1 hlb1 hsv0 hbv0 hlv0 hsv1 hbv1 hlv1 hsv2 hbv2 hlv2 hsv3 hbv3 hlv3 hsv4 hbv4 hlv4 hsv5 hbv5 hlv5 h1 h2 hB1
  go_loopw [15, 16] (fun n i wr => ∃ m : Nat, m ≤ 160 ∧ n = .int .i64 ((min m r : Nat) : Int) ∧ i = .int .i64 (m : Int) ∧ Has wr gv0 us ∧ Has wr gv1 ts ∧ Below w.heap.size w wr) (fun _ i _ => (160 - intOf i).toNat)
  case atStart => exact ⟨0, by omega, by simp, rfl, HA, HT, HW⟩
  case round =>
    obtain ⟨m, hm0, rfl, rfl, ha0, ht0, hbr⟩ := hrel
    clear HA HT HW
    by_cases hm : m < 160
    · have hmr : min m r ≤ 160 := by omega
      by_cases hlt : m < r
      · have hin : decide (dst (bv us) (bv (ppL us m)) ≤ dst (bv us) (bv ts)) = true := by rw [fin_in us ts hu ht r m hm hB]; simpa using hlt
        go_wp2
        refine wp_region_ext (by kernel_rfl) (by kernel_rfl) ?_
        refine wq_load26 rfl _ rfl gv0 rfl us ha0 ?_
        simp only [Act.put, List.setIfInBounds_toArray, List.set_cons_zero, List.set_cons_succ]
        refine wq_val rfl (.int .i64 (m : Int)) (fun _ => run_move rfl rfl) ?_
        simp only [Act.put, List.setIfInBounds_toArray, List.set_cons_zero, List.set_cons_succ]
        refine wq_call rfl (.agg (idc (ppL us m))) 11 #[.agg (idc us), .int .i64 (m : Int)] (fun _ => run_call rfl rfl (by simp [Act.eval]) Try.func11 (by kernel_rfl) (by kernel_rfl)) (fun W _ => zzPlusPower_fn us hu m hm W) ?_
        simp only [Act.put, List.setIfInBounds_toArray, List.set_cons_zero, List.set_cons_succ]
        refine wq_load26 rfl _ rfl gv0 rfl us ha0 ?_
        simp only [Act.put, List.setIfInBounds_toArray, List.set_cons_zero, List.set_cons_succ]
        refine wq_load26 rfl _ rfl gv1 rfl ts ht0 ?_
        simp only [Act.put, List.setIfInBounds_toArray, List.set_cons_zero, List.set_cons_succ]
        refine wq_call rfl (.bool true) 13 #[.agg (idc (ppL us m)), .agg (idc us), .agg (idc ts)] (fun _ => run_call rfl rfl (by simp [Act.eval]) Try.func13 (by kernel_rfl) (by kernel_rfl)) (fun W _ => inr_lit (ppL us m) us ts (ppL_id _ _) hu ht true hin W) ?_
        simp only [Act.put, List.setIfInBounds_toArray, List.set_cons_zero, List.set_cons_succ]
        refine wq_nil ?_
        intro w2 hb2
        have hb2' : Below wr.heap.size wr w2 := hb2
        go_wp2
        go_roundw
        case rel => exact ⟨m + 1, by omega, by rw [show min m r = m by omega, show min (m + 1) r = m + 1 by omega]; go_num, by go_num, ha0.below' hb2', ht0.below' hb2', Below.chain hbr hb2'⟩
        case measure => simp [intOf]; omega
      · have hin : decide (dst (bv us) (bv (ppL us m)) ≤ dst (bv us) (bv ts)) = false := by rw [fin_in us ts hu ht r m hm hB]; simpa using hlt
        go_wp2
        refine wp_region_ext (by kernel_rfl) (by kernel_rfl) ?_
        refine wq_load26 rfl _ rfl gv0 rfl us ha0 ?_
        simp only [Act.put, List.setIfInBounds_toArray, List.set_cons_zero, List.set_cons_succ]
        refine wq_val rfl (.int .i64 (m : Int)) (fun _ => run_move rfl rfl) ?_
        simp only [Act.put, List.setIfInBounds_toArray, List.set_cons_zero, List.set_cons_succ]
        refine wq_call rfl (.agg (idc (ppL us m))) 11 #[.agg (idc us), .int .i64 (m : Int)] (fun _ => run_call rfl rfl (by simp [Act.eval]) Try.func11 (by kernel_rfl) (by kernel_rfl)) (fun W _ => zzPlusPower_fn us hu m hm W) ?_
        simp only [Act.put, List.setIfInBounds_toArray, List.set_cons_zero, List.set_cons_succ]
        refine wq_load26 rfl _ rfl gv0 rfl us ha0 ?_
        simp only [Act.put, List.setIfInBounds_toArray, List.set_cons_zero, List.set_cons_succ]
        refine wq_load26 rfl _ rfl gv1 rfl ts ht0 ?_
        simp only [Act.put, List.setIfInBounds_toArray, List.set_cons_zero, List.set_cons_succ]
        refine wq_call rfl (.bool false) 13 #[.agg (idc (ppL us m)), .agg (idc us), .agg (idc ts)] (fun _ => run_call rfl rfl (by simp [Act.eval]) Try.func13 (by kernel_rfl) (by kernel_rfl)) (fun W _ => inr_lit (ppL us m) us ts (ppL_id _ _) hu ht false hin W) ?_
        simp only [Act.put, List.setIfInBounds_toArray, List.set_cons_zero, List.set_cons_succ]
        refine wq_nil ?_
        intro w2 hb2
        have hb2' : Below wr.heap.size wr w2 := hb2
        go_wp2
        go_roundw
        case rel => exact ⟨m + 1, by omega, by rw [show min m r = r by omega, show min (m + 1) r = r by omega], by go_num, ha0.below' hb2', ht0.below' hb2', Below.chain hbr hb2'⟩
        case measure => simp [intOf]; omega
    · have hm160 : m = 160 := by omega
      subst hm160
      have hmr : min 160 r = r := by omega
      rw [hmr]
      clear hmr
      go_wp2_with (first
        | (refine wpl_load26 rfl _ rfl _ rfl ?_ ?_ ?_; rotate_left; (focus ((repeat (first | assumption | (apply Has.via; focus assumption))); done)); simp only [Act.put, List.setIfInBounds_toArray, List.set_cons_zero, List.set_cons_succ])
        | (go_at_call 12; refine (zzStartsUpTo_lit us ts hu ht r hB _).mono ?_; rintro e w' ⟨rfl, hb'⟩))
      go_ret
      refine ⟨by simp, ?_⟩
      repeat (first | assumption | (apply Below.via; focus assumption))


set_option maxRecDepth 100000 in
set_option maxHeartbeats 2000000 in
theorem early (us ts : List Int) (hu : Id20 us) (ht : Id20 ts) (j k : Int) (h : j < 0 ∨ (0 ≤ j ∧ 159 < j) ∨ (0 ≤ j ∧ j ≤ 159 ∧ k < 0) ∨ (0 ≤ j ∧ j ≤ 159 ∧ 0 ≤ k ∧ 159 < k)) (w : World) :
    Calls Try.prog 4 #[.agg (idc us), .agg (idc ts), .int .i64 j, .int .i64 k] w fun e w' => e = .returned (.bool true) ∧ Below w.heap.size w w' := by
  rcases h with h | ⟨h0, h⟩ | ⟨h0, h1, h⟩ | ⟨h0, h1, h2, h⟩
  all_goals
    go_enter Try.func4, Try.ntmps4
    go_wp2_with (refine wpl_box rfl _ rfl _ rfl (by assumption) ?_; intro g w' hs hb hl; simp only [Act.put, List.setIfInBounds_toArray, List.set_cons_zero, List.set_cons_succ])
    go_ret
    refine ⟨rfl, ?_⟩
    repeat (first | assumption | (apply Below.via; focus assumption))

theorem walk (us ts : List Int) (j k : Int) (hu : Id20 us) (ht : Id20 ts) (wj : (Lit.int .i64 j).wf = true) (wk : (Lit.int .i64 k).wf = true) (w : World) :
    Calls Try.prog 4 #[.agg (idc us), .agg (idc ts), .int .i64 j, .int .i64 k] w fun e w' => e = .returned (.bool true) ∧ Below w.heap.size w w' := by
  by_cases h1 : j < 0
  · exact early us ts hu ht j k (.inl h1) w
  by_cases h2 : 159 < j
  · exact early us ts hu ht j k (.inr (.inl ⟨by omega, h2⟩)) w
  by_cases h3 : k < 0
  · exact early us ts hu ht j k (.inr (.inr (.inl ⟨by omega, by omega, h3⟩))) w
  by_cases h4 : 159 < k
  · exact early us ts hu ht j k (.inr (.inr (.inr ⟨by omega, by omega, by omega, h4⟩))) w
  obtain ⟨jn, rfl⟩ := Int.eq_ofNat_of_zero_le (show 0 ≤ j by omega)
  obtain ⟨kn, rfl⟩ := Int.eq_ofNat_of_zero_le (show 0 ≤ k by omega)
  obtain ⟨r, hB⟩ := bits_exists (d := (bv ts - bv us) % 1461501637330902918203684832716283019655932542976) (by omega) (by omega)
  have hr : r ≤ 160 := by
    rcases hB with ⟨_, h⟩ | ⟨_, h, _⟩ <;> omega
  by_cases h5 : kn < 159
  · exact core_lt us ts hu ht jn kn (by omega) h5 r hB hr w
  · have : kn = 159 := by omega
    exact core_eq us ts hu ht jn kn (by omega) (by omega) (by omega) r hB hr w

/-! ### THE ROW's STEP, after the guide's frame -/
set_option maxRecDepth 100000 in
theorem lifted (os : Os) (started : os.Started) (H : Type) (enc : TypeId × Value → H) :
    ReturnsInHanded {} Try.checked os 4 .any (Rows.fnFingerStartsCountUpToSpec.pre6 enc Try.prog Try.f4 Rows.fnFingerStartsCountUpToRow.domain false) (Rows.fnFingerStartsCountUpToSpec.post enc Try.prog Try.f4 false true false false) := by
  refine returnsInHanded_of_change (C := Try.checked) own started (by kernel_rfl) Try.func4
    (ChangeSpec.witness6 (enc := enc) (C := Try.checked) false ⟨#[], #[.agg (idc zeros), .agg (idc zeros), .int .i64 0, .int .i64 0], []⟩ 8 (by kernel_rfl) (by kernel_rfl) (by kernel_rfl) (by kernel_rfl)) ?_
  intro W base args ds gs before hval0 hW hcnd _
  have hval : ∀ (j : Nat) t v, Try.f4.params[j]? = some t → args[j]? = some v → Value.okWide Try.prog W .any base t v := hval0
  have hW' := hW
  obtain ⟨p, q, hA0, hV, rfl, hfz, hnd⟩ := hW
  have hA : DataW.TrodAll enc Try.prog W 0 (fun _ => true) true Try.f4.params.toList args.toList ds p := hA0
  rw [Try.params4] at hA hval
  obtain ⟨v0, vs0, d0, ds0, p0, q0, hargs, rfl, rfl, h0, r0⟩ := trodAll_cons hA
  obtain ⟨v1, vs1, d1, ds1, p1, q1, rfl, rfl, rfl, h1, r1⟩ := trodAll_cons r0
  obtain ⟨v2, vs2, d2, ds2, p2, q2, rfl, rfl, rfl, h2, r2⟩ := trodAll_cons r1
  obtain ⟨v3, vs3, d3, ds3, p3, q3, rfl, rfl, rfl, h3, r3⟩ := trodAll_cons r2
  obtain ⟨rfl, rfl, rfl⟩ := trodAll_nil r3
  obtain rfl : args = #[v0, v1, v2, v3] := by cases args; simp_all
  obtain ⟨rfl, rfl⟩ := trodVars_none hV
  have k0 := h0
  have lt0 : ∀ x ∈ p0, x.block < W.heap.size := by obtain ⟨m, hm⟩ := k0; exact DataW.trod_lt m _ _ _ hm
  obtain ⟨a0, i0, rfl⟩ := open_id (hval 0 25 v0 rfl rfl) h0
  have k1 := h1
  have lt1 : ∀ x ∈ p1, x.block < W.heap.size := by obtain ⟨m, hm⟩ := k1; exact DataW.trod_lt m _ _ _ hm
  obtain ⟨a1, i1, rfl⟩ := open_id (hval 1 25 v1 rfl rfl) h1
  have k2 := h2
  have lt2 : ∀ x ∈ p2, x.block < W.heap.size := by obtain ⟨m, hm⟩ := k2; exact DataW.trod_lt m _ _ _ hm
  obtain ⟨a2, rfl, rfl, rfl, w2⟩ := open_int Try.underlying3 (hval 2 3 v2 rfl rfl) h2
  have k3 := h3
  have lt3 : ∀ x ∈ p3, x.block < W.heap.size := by obtain ⟨m, hm⟩ := k3; exact DataW.trod_lt m _ _ _ hm
  obtain ⟨a3, rfl, rfl, rfl, w3⟩ := open_int Try.underlying3 (hval 3 3 v3 rfl rfl) h3
  clear hA0 hval0
  refine (walk a0 a1 a2 a3 i0 i1 w2 w3 W).mono fun e W' ⟨he, bel⟩ => ?_
  subst he
  exact ⟨_, rfl, _, _, _, [], _, [], hW', trodAll_mk1 (shut_bool Try.underlying4 _), (trodAll_cons_mk (Below.trod laidOut (by kernel_rfl) (of_decide_eq_true (by kernel_rfl)) k0 bel lt0) (trodAll_cons_mk (Below.trod laidOut (by kernel_rfl) (of_decide_eq_true (by kernel_rfl)) k1 bel lt1) (trodAll_cons_mk (Below.trod laidOut (by kernel_rfl) (of_decide_eq_true (by kernel_rfl)) k2 bel lt2) (trodAll_cons_mk (Below.trod laidOut (by kernel_rfl) (of_decide_eq_true (by kernel_rfl)) k3 bel lt3) trodAll_mk0)))), rfl, bel.frame _, fun h => by cases h⟩

theorem over : Rows.fnFingerStartsCountUpToRow.holds Try.pinned (OpenSpec.ofChange Rows.fnFingerStartsCountUpToSpec) :=
  OpenClaim.holds_of_wide 4 Try.f4 rfl rfl rfl rfl rfl rfl rfl ⟨rfl, rfl, rfl, rfl, rfl⟩ rfl rfl rfl rfl rfl (by kernel_rfl) Try.func4 (by kernel_rfl)
    (of_decide_eq_true (by kernel_rfl)) (by unfold Func.isWrapper; first | (rw [if_pos (by decide +kernel)]; kernel_rfl) | (rw [if_neg (by decide +kernel)]; exact ⟨rfl, rfl⟩))
    (fun os started H enc _ => lifted os started H enc)

/-- THE STATEMENT -/
theorem proved : Rows.FnFingerStartsCountUpToSaid := over
#print axioms proved
end Go.Proofs.Qxb6001691a.fnFinger
