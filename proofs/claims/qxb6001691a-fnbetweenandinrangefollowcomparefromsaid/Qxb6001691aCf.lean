import Derived.Test.Qxb6001691aHead2
namespace Go.Proofs.Qxb6001691a
open Go.ChangeShapes Go.WideShapes Go.ChangeAt Go.RowKit

set_option maxHeartbeats 1000000 in
theorem compareFrom_heads (fs xs ys : List Int) (hf : Id20 fs) (hx : Id20 xs) (hy : Id20 ys) (w : World)
    (k1 : (hd (bv fs) != hd (bv xs)) = true) (k2 : (hd (bv fs) != hd (bv ys)) = true) (k3 : (hd (bv xs) != hd (bv ys)) = true) :
    Calls Try.prog 36 #[.agg (idc fs), .agg (idc xs), .agg (idc ys)] w fun e w' => e = .returned (.int .i64 (sgn (IntKind.u64.wrap (hd (bv xs) - hd (bv fs))) (IntKind.u64.wrap (hd (bv ys) - hd (bv fs))))) ∧ Below w.heap.size w w' := by
  go_enter Try.func36, Try.ntmps36
  go_wp2_with (first
    | (refine wpl_box rfl _ rfl _ rfl (by assumption) ?_; intro g w' hs hb hl)
    | (go_at_call 42; refine (head_any _ fs _ ?_).mono ?_; (focus (repeat (first | assumption | (apply Has.via; focus assumption)))); rintro e w' ⟨rfl, hb'⟩)
    | (go_at_call 42; refine (head_any _ xs _ ?_).mono ?_; (focus (repeat (first | assumption | (apply Has.via; focus assumption)))); rintro e w' ⟨rfl, hb'⟩)
    | (go_at_call 42; refine (head_any _ ys _ ?_).mono ?_; (focus (repeat (first | assumption | (apply Has.via; focus assumption)))); rintro e w' ⟨rfl, hb'⟩)
    | (go_at_call 43; refine (compare_any _ _ _).mono ?_; rintro e w' ⟨rfl, rfl⟩))
  go_ret
  refine ⟨rfl, ?_⟩
  repeat (first | assumption | (apply Below.via; focus assumption))
/-- compareFrom by whole identifiers, under a name (the walk parts on a bare 'if'). -/
def cfB (f x y : Int) : Int := if decide (sgn x f ≤ 0) = decide (sgn y f ≤ 0) then sgn x y else if decide (sgn x f ≤ 0) = true then 1 else -1
set_option maxHeartbeats 1000000 in
theorem compareFrom_bytes (fs xs ys : List Int) (hf : Id20 fs) (hx : Id20 xs) (hy : Id20 ys) (w : World)
    (k : (hd (bv fs) != hd (bv xs)) = false ∨ ((hd (bv fs) != hd (bv xs)) = true ∧ (hd (bv fs) != hd (bv ys)) = false) ∨ ((hd (bv fs) != hd (bv xs)) = true ∧ (hd (bv fs) != hd (bv ys)) = true ∧ (hd (bv xs) != hd (bv ys)) = false)) :
    Calls Try.prog 36 #[.agg (idc fs), .agg (idc xs), .agg (idc ys)] w fun e w' => e = .returned (.int .i64 (cfB (bv fs) (bv xs) (bv ys))) ∧ Below w.heap.size w w' := by
  rcases k with k1 | ⟨k1, k2⟩ | ⟨k1, k2, k3⟩
  all_goals
    go_enter Try.func36, Try.ntmps36
    go_wp2_with (first
      | (refine wpl_box rfl _ rfl _ rfl (by assumption) ?_; intro g w' hs hb hl)
      | (go_at_call 42; refine (head_any _ fs _ ?_).mono ?_; (focus (repeat (first | assumption | (apply Has.via; focus assumption)))); rintro e w' ⟨rfl, hb'⟩)
      | (go_at_call 42; refine (head_any _ xs _ ?_).mono ?_; (focus (repeat (first | assumption | (apply Has.via; focus assumption)))); rintro e w' ⟨rfl, hb'⟩)
      | (go_at_call 42; refine (head_any _ ys _ ?_).mono ?_; (focus (repeat (first | assumption | (apply Has.via; focus assumption)))); rintro e w' ⟨rfl, hb'⟩)
      | (go_at_call 43; refine (compare_any _ _ _).mono ?_; rintro e w' ⟨rfl, rfl⟩))
  all_goals
    go_quiet (first
      | (go_at_call 44; refine Calls.quiet_of_same (bytesCompare_any _ _ _ _ xs fs _ ?_ ?_); (focus (refine Has.drewN ?_ _; repeat (first | assumption | (apply Has.via; focus assumption)))); (focus (refine Has.drewN ?_ _; repeat (first | assumption | (apply Has.via; focus assumption)))))
      | (go_at_call 44; refine Calls.quiet_of_same (bytesCompare_any _ _ _ _ ys fs _ ?_ ?_); (focus (refine Has.drewN ?_ _; repeat (first | assumption | (apply Has.via; focus assumption)))); (focus (refine Has.drewN ?_ _; repeat (first | assumption | (apply Has.via; focus assumption))))))
    have hbq : Below w'.heap.size w' (w'.drewN nq) := Below.drewN' (Below.refl _ _) _
    generalize w'.drewN nq = wq at hbq ⊢
    by_cases r1 : sgn (bv xs) (bv fs) ≤ 0 <;> by_cases r2 : sgn (bv ys) (bv fs) ≤ 0
    · have hv : Hid (cfB (bv fs) (bv xs) (bv ys) = sgn (bv xs) (bv ys)) := by simp [Hid, cfB, r1, r2]
      go_wp2
      go_quiet (first
        | (go_at_call 44; refine Calls.quiet_of_same (bytesCompare_any _ _ _ _ xs ys _ ?_ ?_); (focus (refine Has.drewN ?_ _; repeat (first | assumption | (apply Has.via; focus assumption)))); (focus (refine Has.drewN ?_ _; repeat (first | assumption | (apply Has.via; focus assumption))))))
      go_wp2
      go_ret
      refine ⟨by rw [hv.out]; rfl, ?_⟩
      refine Below.drewN' ?_ _
      repeat (first | assumption | (apply Below.via; focus assumption))
    · have hv : Hid (cfB (bv fs) (bv xs) (bv ys) = 1) := by simp [Hid, cfB, r1, r2]
      go_wp2
      go_ret
      refine ⟨by rw [hv.out]; rfl, ?_⟩
      repeat (first | assumption | (apply Below.via; focus assumption))
    · have hv : Hid (cfB (bv fs) (bv xs) (bv ys) = -1) := by simp [Hid, cfB, r1, r2]
      go_wp2
      go_ret
      refine ⟨by rw [hv.out]; rfl, ?_⟩
      repeat (first | assumption | (apply Below.via; focus assumption))
    · have hv : Hid (cfB (bv fs) (bv xs) (bv ys) = sgn (bv xs) (bv ys)) := by simp [Hid, cfB, r1, r2]
      go_wp2
      go_quiet (first
        | (go_at_call 44; refine Calls.quiet_of_same (bytesCompare_any _ _ _ _ xs ys _ ?_ ?_); (focus (refine Has.drewN ?_ _; repeat (first | assumption | (apply Has.via; focus assumption)))); (focus (refine Has.drewN ?_ _; repeat (first | assumption | (apply Has.via; focus assumption))))))
      go_wp2
      go_ret
      refine ⟨by rw [hv.out]; rfl, ?_⟩
      refine Below.drewN' ?_ _
      repeat (first | assumption | (apply Below.via; focus assumption))

theorem compareFrom_any (fs xs ys : List Int) (hf : Id20 fs) (hx : Id20 xs) (hy : Id20 ys) (w : World) :
    Calls Try.prog 36 #[.agg (idc fs), .agg (idc xs), .agg (idc ys)] w fun e w' => e = .returned (.int .i64 (sgn (dst (bv fs) (bv xs)) (dst (bv fs) (bv ys)))) ∧ Below w.heap.size w w' := by
  by_cases k1 : hd (bv fs) = hd (bv xs)
  · rw [← cf_bytes hf.bounds hx.bounds hy.bounds]
    exact compareFrom_bytes fs xs ys hf hx hy w (.inl (by simpa using k1))
  · by_cases k2 : hd (bv fs) = hd (bv ys)
    · rw [← cf_bytes hf.bounds hx.bounds hy.bounds]
      exact compareFrom_bytes fs xs ys hf hx hy w (.inr (.inl ⟨by simpa using k1, by simpa using k2⟩))
    · by_cases k3 : hd (bv xs) = hd (bv ys)
      · rw [← cf_bytes hf.bounds hx.bounds hy.bounds]
        exact compareFrom_bytes fs xs ys hf hx hy w (.inr (.inr ⟨by simpa using k1, by simpa using k2, by simpa using k3⟩))
      · rw [← cf_heads hf.bounds hx.bounds hy.bounds k1 k2 k3, ← IntKind.wrap_u64, ← IntKind.wrap_u64]
        exact compareFrom_heads fs xs ys hf hx hy w (by simpa using k1) (by simpa using k2) (by simpa using k3)

theorem zzCompareFrom_any (fs xs ys : List Int) (hf : Id20 fs) (hx : Id20 xs) (hy : Id20 ys) (w : World) :
    Calls Try.prog 14 #[.agg (idc fs), .agg (idc xs), .agg (idc ys)] w fun e w' => e = .returned (.int .i64 (sgn (dst (bv fs) (bv xs)) (dst (bv fs) (bv ys)))) ∧ Below w.heap.size w w' := by
  go_enter Try.func14, Try.ntmps14
  go_wp2_with (first
    | (refine wpl_box rfl _ rfl _ rfl (by assumption) ?_; intro g w' hs hb hl)
    | (refine wpl_load26 rfl _ rfl _ rfl fs ?_ ?_; (focus ((repeat (first | assumption | (apply Has.via; focus assumption))); done)))
    | (refine wpl_load26 rfl _ rfl _ rfl xs ?_ ?_; (focus ((repeat (first | assumption | (apply Has.via; focus assumption))); done)))
    | (refine wpl_load26 rfl _ rfl _ rfl ys ?_ ?_; (focus ((repeat (first | assumption | (apply Has.via; focus assumption))); done)))
    | (go_at_call 36; refine (compareFrom_any fs xs ys hf hx hy _).mono ?_; rintro e w' ⟨rfl, hb'⟩))
  go_ret
  refine ⟨rfl, ?_⟩
  repeat (first | assumption | (apply Below.via; focus assumption))
end Go.Proofs.Qxb6001691a
