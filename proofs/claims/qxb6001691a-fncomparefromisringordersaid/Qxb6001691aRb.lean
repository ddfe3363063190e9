import Derived.Test.Qxb6001691aShift
namespace Go.Proofs.Qxb6001691a
open Go.ChangeShapes Go.WideShapes Go.ChangeAt Go.RowKit
set_option linter.unusedVariables false

set_option maxRecDepth 100000 in
set_option maxHeartbeats 4000000 in
theorem core_B1f (fs xs ys zs : List Int) (hf : Id20 fs) (hx : Id20 xs) (hy : Id20 ys) (hz : Id20 zs) (k : Nat) (hk : k < 160) (w : World)
    (hbxy : decide (bv xs = bv ys) = false)
    (hbxf : (!decide (bv xs = bv fs)) = false)
    (r1 : sgn (dst (bv fs) (bv xs)) (dst (bv fs) (bv ys)) = 1)
    (r2 : sgn (dst (bv fs) (bv ys)) (dst (bv fs) (bv xs)) = -1)
    (r3 : sgn (dst (bv fs) (bv fs)) (dst (bv fs) (bv fs)) = 0)
    (r5 : 0 ≤ sgn (dst (bv fs) (bv ys)) (dst (bv fs) (bv zs)))
    (r6 : 0 ≤ sgn (dst (bv fs) (bv xs)) (dst (bv fs) (bv zs))) :
    Calls Try.prog 5 #[.agg (idc fs), .agg (idc xs), .agg (idc ys), .agg (idc zs), .int .i64 (k : Int)] w fun e w' => e = .returned (.bool true) ∧ Below w.heap.size w w' := by
  have tb0 : True := trivial
  have tb1 : True := trivial
  have tb2 : True := trivial
  have tb3 : True := trivial
  have tv0 : True := trivial
  have tv1 : True := trivial
  have tv2 : True := trivial
  have tv3 : True := trivial
  have tv4 : True := trivial
  have tv5 : True := trivial
  have tv6 : True := trivial
  have tp0 : True := trivial
  have tp1 : True := trivial
  have tp2 : True := trivial
  go_enter Try.func5, Try.ntmps5
  go_wp2_with (first
    | (have _t := tb0; refine wpl_box rfl _ rfl _ rfl (by assumption) ?_; intro gb0 wb0 hsb0 hbb0 hlb0; clear tb0 _t; simp only [Act.put, List.setIfInBounds_toArray, List.set_cons_zero, List.set_cons_succ])
    | (have _t := tb1; refine wpl_box rfl _ rfl _ rfl (by assumption) ?_; intro gb1 wb1 hsb1 hbb1 hlb1; clear tb1 _t; simp only [Act.put, List.setIfInBounds_toArray, List.set_cons_zero, List.set_cons_succ])
    | (have _t := tb2; refine wpl_box rfl _ rfl _ rfl (by assumption) ?_; intro gb2 wb2 hsb2 hbb2 hlb2; clear tb2 _t; simp only [Act.put, List.setIfInBounds_toArray, List.set_cons_zero, List.set_cons_succ])
    | (have _t := tb3; refine wpl_box rfl _ rfl _ rfl (by assumption) ?_; intro gb3 wb3 hsb3 hbb3 hlb3; clear tb3 _t; simp only [Act.put, List.setIfInBounds_toArray, List.set_cons_zero, List.set_cons_succ])
    | (refine wpl_load25 rfl _ rfl _ rfl ?_ ?_ ?_; rotate_left; (focus ((repeat (first | assumption | (apply Has.via; focus assumption))); done)); simp only [Act.put, List.setIfInBounds_toArray, List.set_cons_zero, List.set_cons_succ])
    | (have _t := tv0; refine wpl_var26 rfl rfl _ rfl rfl rfl _ rfl rfl rfl _ rfl (by assumption) ?_; intro gv0 wv0 hsv0 hbv0 hlv0; clear tv0 _t; simp only [Act.put, List.setIfInBounds_toArray, List.set_cons_zero, List.set_cons_succ])
    | (have _t := tv1; refine wpl_var26 rfl rfl _ rfl rfl rfl _ rfl rfl rfl _ rfl (by assumption) ?_; intro gv1 wv1 hsv1 hbv1 hlv1; clear tv1 _t; simp only [Act.put, List.setIfInBounds_toArray, List.set_cons_zero, List.set_cons_succ])
    | (have _t := tv2; refine wpl_var26 rfl rfl _ rfl rfl rfl _ rfl rfl rfl _ rfl (by assumption) ?_; intro gv2 wv2 hsv2 hbv2 hlv2; clear tv2 _t; simp only [Act.put, List.setIfInBounds_toArray, List.set_cons_zero, List.set_cons_succ])
    | (have _t := tv3; refine wpl_var26 rfl rfl _ rfl rfl rfl _ rfl rfl rfl _ rfl (by assumption) ?_; intro gv3 wv3 hsv3 hbv3 hlv3; clear tv3 _t; simp only [Act.put, List.setIfInBounds_toArray, List.set_cons_zero, List.set_cons_succ])
    | (have _t := tv4; refine wpl_var26 rfl rfl _ rfl rfl rfl _ rfl rfl rfl _ rfl (by assumption) ?_; intro gv4 wv4 hsv4 hbv4 hlv4; clear tv4 _t; simp only [Act.put, List.setIfInBounds_toArray, List.set_cons_zero, List.set_cons_succ])
    | (have _t := tv5; refine wpl_var26 rfl rfl _ rfl rfl rfl _ rfl rfl rfl _ rfl (by assumption) ?_; intro gv5 wv5 hsv5 hbv5 hlv5; clear tv5 _t; simp only [Act.put, List.setIfInBounds_toArray, List.set_cons_zero, List.set_cons_succ])
    | (have _t := tv6; refine wpl_var26 rfl rfl _ rfl rfl rfl _ rfl rfl rfl _ rfl (by assumption) ?_; intro gv6 wv6 hsv6 hbv6 hlv6; clear tv6 _t; simp only [Act.put, List.setIfInBounds_toArray, List.set_cons_zero, List.set_cons_succ])
    | (refine wpl_load26 rfl _ rfl _ rfl ?_ ?_ ?_; rotate_left; (focus ((repeat (first | assumption | (apply Has.via; focus assumption))); done)); simp only [Act.put, List.setIfInBounds_toArray, List.set_cons_zero, List.set_cons_succ])
    | (refine wpl_load26g rfl _ rfl _ rfl ?_ ?_ ?_; rotate_left; (focus ((repeat (first | assumption | (apply Has.via; focus assumption))); done)); simp only [Act.put, List.setIfInBounds_toArray, List.set_cons_zero, List.set_cons_succ])
    | (refine wpl_eql26 rfl _ _ _ rfl xs ys rfl rfl hx hy _ hbxy ?_; simp only [Act.put, List.setIfInBounds_toArray, List.set_cons_zero, List.set_cons_succ])
    | (refine wpl_neq26 rfl _ _ _ rfl xs fs rfl rfl hx hf _ hbxf ?_; simp only [Act.put, List.setIfInBounds_toArray, List.set_cons_zero, List.set_cons_succ])
    | (go_at_call 14; have _t := HV2; refine (zzcf_shift fs xs ys sf sx sy k ?_ ?_ ?_ HV0 HV1 HV2 _).mono ?_; (focus assumption); (focus assumption); (focus assumption); rintro e w' ⟨rfl, hb'⟩)
    | (go_at_call 14; refine (zzCompareFrom_any _ _ _ ?_ ?_ ?_ _).mono ?_; (focus assumption); (focus assumption); (focus assumption); rintro e w' ⟨rfl, hb'⟩)
    | (go_at_call 11; have _t := tp0; refine (zzPlusPower_any fs hf k hk _).mono ?_; rintro e w' ⟨sf, hisf, hvsf, rfl, hb'⟩; have HV0 : Hid (bv sf = (bv fs + 2 ^ k) % 1461501637330902918203684832716283019655932542976) := hvsf; clear hvsf tp0 _t)
    | (go_at_call 11; have _t := tp1; refine (zzPlusPower_any xs hx k hk _).mono ?_; rintro e w' ⟨sx, hisx, hvsx, rfl, hb'⟩; have HV1 : Hid (bv sx = (bv xs + 2 ^ k) % 1461501637330902918203684832716283019655932542976) := hvsx; clear hvsx tp1 _t)
    | (go_at_call 11; have _t := tp2; refine (zzPlusPower_any ys hy k hk _).mono ?_; rintro e w' ⟨sy, hisy, hvsy, rfl, hb'⟩; have HV2 : Hid (bv sy = (bv ys + 2 ^ k) % 1461501637330902918203684832716283019655932542976) := hvsy; clear hvsy tp2 _t))
  go_ret
  refine ⟨rfl, ?_⟩
  repeat (first | assumption | (apply Below.via; focus assumption))

set_option maxRecDepth 100000 in
set_option maxHeartbeats 4000000 in
theorem core_B2n (fs xs ys zs : List Int) (hf : Id20 fs) (hx : Id20 xs) (hy : Id20 ys) (hz : Id20 zs) (k : Nat) (hk : k < 160) (w : World)
    (hbxy : decide (bv xs = bv ys) = false)
    (hbxf : (!decide (bv xs = bv fs)) = true)
    (r1 : sgn (dst (bv fs) (bv xs)) (dst (bv fs) (bv ys)) = 1)
    (r2 : sgn (dst (bv fs) (bv ys)) (dst (bv fs) (bv xs)) = -1)
    (r3 : sgn (dst (bv fs) (bv fs)) (dst (bv fs) (bv fs)) = 0)
    (r4 : sgn (dst (bv fs) (bv xs)) (dst (bv fs) (bv fs)) = -1)
    (r5 : sgn (dst (bv fs) (bv ys)) (dst (bv fs) (bv zs)) = -1) :
    Calls Try.prog 5 #[.agg (idc fs), .agg (idc xs), .agg (idc ys), .agg (idc zs), .int .i64 (k : Int)] w fun e w' => e = .returned (.bool true) ∧ Below w.heap.size w w' := by
  have tb0 : True := trivial
  have tb1 : True := trivial
  have tb2 : True := trivial
  have tb3 : True := trivial
  have tv0 : True := trivial
  have tv1 : True := trivial
  have tv2 : True := trivial
  have tv3 : True := trivial
  have tv4 : True := trivial
  have tv5 : True := trivial
  have tv6 : True := trivial
  have tp0 : True := trivial
  have tp1 : True := trivial
  have tp2 : True := trivial
  go_enter Try.func5, Try.ntmps5
  go_wp2_with (first
    | (have _t := tb0; refine wpl_box rfl _ rfl _ rfl (by assumption) ?_; intro gb0 wb0 hsb0 hbb0 hlb0; clear tb0 _t; simp only [Act.put, List.setIfInBounds_toArray, List.set_cons_zero, List.set_cons_succ])
    | (have _t := tb1; refine wpl_box rfl _ rfl _ rfl (by assumption) ?_; intro gb1 wb1 hsb1 hbb1 hlb1; clear tb1 _t; simp only [Act.put, List.setIfInBounds_toArray, List.set_cons_zero, List.set_cons_succ])
    | (have _t := tb2; refine wpl_box rfl _ rfl _ rfl (by assumption) ?_; intro gb2 wb2 hsb2 hbb2 hlb2; clear tb2 _t; simp only [Act.put, List.setIfInBounds_toArray, List.set_cons_zero, List.set_cons_succ])
    | (have _t := tb3; refine wpl_box rfl _ rfl _ rfl (by assumption) ?_; intro gb3 wb3 hsb3 hbb3 hlb3; clear tb3 _t; simp only [Act.put, List.setIfInBounds_toArray, List.set_cons_zero, List.set_cons_succ])
    | (refine wpl_load25 rfl _ rfl _ rfl ?_ ?_ ?_; rotate_left; (focus ((repeat (first | assumption | (apply Has.via; focus assumption))); done)); simp only [Act.put, List.setIfInBounds_toArray, List.set_cons_zero, List.set_cons_succ])
    | (have _t := tv0; refine wpl_var26 rfl rfl _ rfl rfl rfl _ rfl rfl rfl _ rfl (by assumption) ?_; intro gv0 wv0 hsv0 hbv0 hlv0; clear tv0 _t; simp only [Act.put, List.setIfInBounds_toArray, List.set_cons_zero, List.set_cons_succ])
    | (have _t := tv1; refine wpl_var26 rfl rfl _ rfl rfl rfl _ rfl rfl rfl _ rfl (by assumption) ?_; intro gv1 wv1 hsv1 hbv1 hlv1; clear tv1 _t; simp only [Act.put, List.setIfInBounds_toArray, List.set_cons_zero, List.set_cons_succ])
    | (have _t := tv2; refine wpl_var26 rfl rfl _ rfl rfl rfl _ rfl rfl rfl _ rfl (by assumption) ?_; intro gv2 wv2 hsv2 hbv2 hlv2; clear tv2 _t; simp only [Act.put, List.setIfInBounds_toArray, List.set_cons_zero, List.set_cons_succ])
    | (have _t := tv3; refine wpl_var26 rfl rfl _ rfl rfl rfl _ rfl rfl rfl _ rfl (by assumption) ?_; intro gv3 wv3 hsv3 hbv3 hlv3; clear tv3 _t; simp only [Act.put, List.setIfInBounds_toArray, List.set_cons_zero, List.set_cons_succ])
    | (have _t := tv4; refine wpl_var26 rfl rfl _ rfl rfl rfl _ rfl rfl rfl _ rfl (by assumption) ?_; intro gv4 wv4 hsv4 hbv4 hlv4; clear tv4 _t; simp only [Act.put, List.setIfInBounds_toArray, List.set_cons_zero, List.set_cons_succ])
    | (have _t := tv5; refine wpl_var26 rfl rfl _ rfl rfl rfl _ rfl rfl rfl _ rfl (by assumption) ?_; intro gv5 wv5 hsv5 hbv5 hlv5; clear tv5 _t; simp only [Act.put, List.setIfInBounds_toArray, List.set_cons_zero, List.set_cons_succ])
    | (have _t := tv6; refine wpl_var26 rfl rfl _ rfl rfl rfl _ rfl rfl rfl _ rfl (by assumption) ?_; intro gv6 wv6 hsv6 hbv6 hlv6; clear tv6 _t; simp only [Act.put, List.setIfInBounds_toArray, List.set_cons_zero, List.set_cons_succ])
    | (refine wpl_load26 rfl _ rfl _ rfl ?_ ?_ ?_; rotate_left; (focus ((repeat (first | assumption | (apply Has.via; focus assumption))); done)); simp only [Act.put, List.setIfInBounds_toArray, List.set_cons_zero, List.set_cons_succ])
    | (refine wpl_load26g rfl _ rfl _ rfl ?_ ?_ ?_; rotate_left; (focus ((repeat (first | assumption | (apply Has.via; focus assumption))); done)); simp only [Act.put, List.setIfInBounds_toArray, List.set_cons_zero, List.set_cons_succ])
    | (refine wpl_eql26 rfl _ _ _ rfl xs ys rfl rfl hx hy _ hbxy ?_; simp only [Act.put, List.setIfInBounds_toArray, List.set_cons_zero, List.set_cons_succ])
    | (refine wpl_neq26 rfl _ _ _ rfl xs fs rfl rfl hx hf _ hbxf ?_; simp only [Act.put, List.setIfInBounds_toArray, List.set_cons_zero, List.set_cons_succ])
    | (go_at_call 14; have _t := HV2; refine (zzcf_shift fs xs ys sf sx sy k ?_ ?_ ?_ HV0 HV1 HV2 _).mono ?_; (focus assumption); (focus assumption); (focus assumption); rintro e w' ⟨rfl, hb'⟩)
    | (go_at_call 14; refine (zzCompareFrom_any _ _ _ ?_ ?_ ?_ _).mono ?_; (focus assumption); (focus assumption); (focus assumption); rintro e w' ⟨rfl, hb'⟩)
    | (go_at_call 11; have _t := tp0; refine (zzPlusPower_any fs hf k hk _).mono ?_; rintro e w' ⟨sf, hisf, hvsf, rfl, hb'⟩; have HV0 : Hid (bv sf = (bv fs + 2 ^ k) % 1461501637330902918203684832716283019655932542976) := hvsf; clear hvsf tp0 _t)
    | (go_at_call 11; have _t := tp1; refine (zzPlusPower_any xs hx k hk _).mono ?_; rintro e w' ⟨sx, hisx, hvsx, rfl, hb'⟩; have HV1 : Hid (bv sx = (bv xs + 2 ^ k) % 1461501637330902918203684832716283019655932542976) := hvsx; clear hvsx tp1 _t)
    | (go_at_call 11; have _t := tp2; refine (zzPlusPower_any ys hy k hk _).mono ?_; rintro e w' ⟨sy, hisy, hvsy, rfl, hb'⟩; have HV2 : Hid (bv sy = (bv ys + 2 ^ k) % 1461501637330902918203684832716283019655932542976) := hvsy; clear hvsy tp2 _t))
  go_ret
  refine ⟨rfl, ?_⟩
  repeat (first | assumption | (apply Below.via; focus assumption))

set_option maxRecDepth 100000 in
set_option maxHeartbeats 4000000 in
theorem core_B2f (fs xs ys zs : List Int) (hf : Id20 fs) (hx : Id20 xs) (hy : Id20 ys) (hz : Id20 zs) (k : Nat) (hk : k < 160) (w : World)
    (hbxy : decide (bv xs = bv ys) = false)
    (hbxf : (!decide (bv xs = bv fs)) = false)
    (r1 : sgn (dst (bv fs) (bv xs)) (dst (bv fs) (bv ys)) = 1)
    (r2 : sgn (dst (bv fs) (bv ys)) (dst (bv fs) (bv xs)) = -1)
    (r3 : sgn (dst (bv fs) (bv fs)) (dst (bv fs) (bv fs)) = 0)
    (r5 : sgn (dst (bv fs) (bv ys)) (dst (bv fs) (bv zs)) = -1) :
    Calls Try.prog 5 #[.agg (idc fs), .agg (idc xs), .agg (idc ys), .agg (idc zs), .int .i64 (k : Int)] w fun e w' => e = .returned (.bool true) ∧ Below w.heap.size w w' := by
  have tb0 : True := trivial
  have tb1 : True := trivial
  have tb2 : True := trivial
  have tb3 : True := trivial
  have tv0 : True := trivial
  have tv1 : True := trivial
  have tv2 : True := trivial
  have tv3 : True := trivial
  have tv4 : True := trivial
  have tv5 : True := trivial
  have tv6 : True := trivial
  have tp0 : True := trivial
  have tp1 : True := trivial
  have tp2 : True := trivial
  go_enter Try.func5, Try.ntmps5
  go_wp2_with (first
    | (have _t := tb0; refine wpl_box rfl _ rfl _ rfl (by assumption) ?_; intro gb0 wb0 hsb0 hbb0 hlb0; clear tb0 _t; simp only [Act.put, List.setIfInBounds_toArray, List.set_cons_zero, List.set_cons_succ])
    | (have _t := tb1; refine wpl_box rfl _ rfl _ rfl (by assumption) ?_; intro gb1 wb1 hsb1 hbb1 hlb1; clear tb1 _t; simp only [Act.put, List.setIfInBounds_toArray, List.set_cons_zero, List.set_cons_succ])
    | (have _t := tb2; refine wpl_box rfl _ rfl _ rfl (by assumption) ?_; intro gb2 wb2 hsb2 hbb2 hlb2; clear tb2 _t; simp only [Act.put, List.setIfInBounds_toArray, List.set_cons_zero, List.set_cons_succ])
    | (have _t := tb3; refine wpl_box rfl _ rfl _ rfl (by assumption) ?_; intro gb3 wb3 hsb3 hbb3 hlb3; clear tb3 _t; simp only [Act.put, List.setIfInBounds_toArray, List.set_cons_zero, List.set_cons_succ])
    | (refine wpl_load25 rfl _ rfl _ rfl ?_ ?_ ?_; rotate_left; (focus ((repeat (first | assumption | (apply Has.via; focus assumption))); done)); simp only [Act.put, List.setIfInBounds_toArray, List.set_cons_zero, List.set_cons_succ])
    | (have _t := tv0; refine wpl_var26 rfl rfl _ rfl rfl rfl _ rfl rfl rfl _ rfl (by assumption) ?_; intro gv0 wv0 hsv0 hbv0 hlv0; clear tv0 _t; simp only [Act.put, List.setIfInBounds_toArray, List.set_cons_zero, List.set_cons_succ])
    | (have _t := tv1; refine wpl_var26 rfl rfl _ rfl rfl rfl _ rfl rfl rfl _ rfl (by assumption) ?_; intro gv1 wv1 hsv1 hbv1 hlv1; clear tv1 _t; simp only [Act.put, List.setIfInBounds_toArray, List.set_cons_zero, List.set_cons_succ])
    | (have _t := tv2; refine wpl_var26 rfl rfl _ rfl rfl rfl _ rfl rfl rfl _ rfl (by assumption) ?_; intro gv2 wv2 hsv2 hbv2 hlv2; clear tv2 _t; simp only [Act.put, List.setIfInBounds_toArray, List.set_cons_zero, List.set_cons_succ])
    | (have _t := tv3; refine wpl_var26 rfl rfl _ rfl rfl rfl _ rfl rfl rfl _ rfl (by assumption) ?_; intro gv3 wv3 hsv3 hbv3 hlv3; clear tv3 _t; simp only [Act.put, List.setIfInBounds_toArray, List.set_cons_zero, List.set_cons_succ])
    | (have _t := tv4; refine wpl_var26 rfl rfl _ rfl rfl rfl _ rfl rfl rfl _ rfl (by assumption) ?_; intro gv4 wv4 hsv4 hbv4 hlv4; clear tv4 _t; simp only [Act.put, List.setIfInBounds_toArray, List.set_cons_zero, List.set_cons_succ])
    | (have _t := tv5; refine wpl_var26 rfl rfl _ rfl rfl rfl _ rfl rfl rfl _ rfl (by assumption) ?_; intro gv5 wv5 hsv5 hbv5 hlv5; clear tv5 _t; simp only [Act.put, List.setIfInBounds_toArray, List.set_cons_zero, List.set_cons_succ])
    | (have _t := tv6; refine wpl_var26 rfl rfl _ rfl rfl rfl _ rfl rfl rfl _ rfl (by assumption) ?_; intro gv6 wv6 hsv6 hbv6 hlv6; clear tv6 _t; simp only [Act.put, List.setIfInBounds_toArray, List.set_cons_zero, List.set_cons_succ])
    | (refine wpl_load26 rfl _ rfl _ rfl ?_ ?_ ?_; rotate_left; (focus ((repeat (first | assumption | (apply Has.via; focus assumption))); done)); simp only [Act.put, List.setIfInBounds_toArray, List.set_cons_zero, List.set_cons_succ])
    | (refine wpl_load26g rfl _ rfl _ rfl ?_ ?_ ?_; rotate_left; (focus ((repeat (first | assumption | (apply Has.via; focus assumption))); done)); simp only [Act.put, List.setIfInBounds_toArray, List.set_cons_zero, List.set_cons_succ])
    | (refine wpl_eql26 rfl _ _ _ rfl xs ys rfl rfl hx hy _ hbxy ?_; simp only [Act.put, List.setIfInBounds_toArray, List.set_cons_zero, List.set_cons_succ])
    | (refine wpl_neq26 rfl _ _ _ rfl xs fs rfl rfl hx hf _ hbxf ?_; simp only [Act.put, List.setIfInBounds_toArray, List.set_cons_zero, List.set_cons_succ])
    | (go_at_call 14; have _t := HV2; refine (zzcf_shift fs xs ys sf sx sy k ?_ ?_ ?_ HV0 HV1 HV2 _).mono ?_; (focus assumption); (focus assumption); (focus assumption); rintro e w' ⟨rfl, hb'⟩)
    | (go_at_call 14; refine (zzCompareFrom_any _ _ _ ?_ ?_ ?_ _).mono ?_; (focus assumption); (focus assumption); (focus assumption); rintro e w' ⟨rfl, hb'⟩)
    | (go_at_call 11; have _t := tp0; refine (zzPlusPower_any fs hf k hk _).mono ?_; rintro e w' ⟨sf, hisf, hvsf, rfl, hb'⟩; have HV0 : Hid (bv sf = (bv fs + 2 ^ k) % 1461501637330902918203684832716283019655932542976) := hvsf; clear hvsf tp0 _t)
    | (go_at_call 11; have _t := tp1; refine (zzPlusPower_any xs hx k hk _).mono ?_; rintro e w' ⟨sx, hisx, hvsx, rfl, hb'⟩; have HV1 : Hid (bv sx = (bv xs + 2 ^ k) % 1461501637330902918203684832716283019655932542976) := hvsx; clear hvsx tp1 _t)
    | (go_at_call 11; have _t := tp2; refine (zzPlusPower_any ys hy k hk _).mono ?_; rintro e w' ⟨sy, hisy, hvsy, rfl, hb'⟩; have HV2 : Hid (bv sy = (bv ys + 2 ^ k) % 1461501637330902918203684832716283019655932542976) := hvsy; clear hvsy tp2 _t))
  go_ret
  refine ⟨rfl, ?_⟩
  repeat (first | assumption | (apply Below.via; focus assumption))

end Go.Proofs.Qxb6001691a
