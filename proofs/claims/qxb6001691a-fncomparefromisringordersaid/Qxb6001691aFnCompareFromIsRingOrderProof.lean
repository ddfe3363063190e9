import Derived.Test.Qxb6001691aRa
import Derived.Test.Qxb6001691aRb
import Derived.Test.Qxb6001691aRc
import Derived.Test.Qxb6001691aRd
import Derived.Test.Qxb6001691aOpen
namespace Go.Proofs.Qxb6001691a.fnCompareFromIsRingOrder
open Go.ChangeShapes Go.WideShapes Go.ChangeAt Go.RowKit
set_option linter.unusedVariables false

theorem core (fs xs ys zs : List Int) (hf : Id20 fs) (hx : Id20 xs) (hy : Id20 ys) (hz : Id20 zs) (k : Nat) (hk : k < 160) (w : World) :
    Calls Try.prog 5 #[.agg (idc fs), .agg (idc xs), .agg (idc ys), .agg (idc zs), .int .i64 (k : Int)] w fun e w' => e = .returned (.bool true) ∧ Below w.heap.size w w' := by
  have bx := dst_bounds (bv fs) (bv xs)
  have b_y := dst_bounds (bv fs) (bv ys)
  have sf := dst_self (bv fs)
  have r3 : sgn (dst (bv fs) (bv fs)) (dst (bv fs) (bv fs)) = 0 := sgn_eq rfl
  have nf : ∀ h : ¬ bv xs = bv fs, sgn (dst (bv fs) (bv xs)) (dst (bv fs) (bv fs)) = -1 := fun h => by
    rcases sgn_cases (dst (bv fs) (bv xs)) (dst (bv fs) (bv fs)) with ⟨_, e⟩ | ⟨c, _⟩ | ⟨c, _⟩
    · exact e
    · omega
    · exact absurd (dst_inj hf.bounds hx.bounds hf.bounds c) h
  rcases sgn_cases (dst (bv fs) (bv xs)) (dst (bv fs) (bv ys)) with ⟨c, e⟩ | ⟨c, e⟩ | ⟨c, e⟩
  · have nxy : ¬ bv xs = bv ys := fun h => by rw [h] at c; omega
    have nxf : ¬ bv xs = bv fs := fun h => by rw [h] at c; omega
    have r2 : sgn (dst (bv fs) (bv ys)) (dst (bv fs) (bv xs)) = 1 := sgn_gt c
    rcases Int.lt_or_le (dst (bv fs) (bv zs)) (dst (bv fs) (bv ys)) with d | d
    · exact core_A2n fs xs ys zs hf hx hy hz k hk w (by simpa using nxy) (by simpa using nxf) e r2 r3 (nf nxf) (sgn_gt d)
    · have r5 : sgn (dst (bv fs) (bv ys)) (dst (bv fs) (bv zs)) ≤ 0 := by rcases sgn_cases (dst (bv fs) (bv ys)) (dst (bv fs) (bv zs)) with h | h | h <;> omega
      have r6 : sgn (dst (bv fs) (bv xs)) (dst (bv fs) (bv zs)) ≤ 0 := by rw [sgn_lt (by omega)]; decide
      exact core_A1n fs xs ys zs hf hx hy hz k hk w (by simpa using nxy) (by simpa using nxf) e r2 r3 (nf nxf) r5 r6
  · have nxy : ¬ bv xs = bv ys := fun h => by rw [h] at c; omega
    have r2 : sgn (dst (bv fs) (bv ys)) (dst (bv fs) (bv xs)) = -1 := sgn_lt c
    rcases Int.lt_or_le (dst (bv fs) (bv ys)) (dst (bv fs) (bv zs)) with d | d
    · by_cases xf : bv xs = bv fs
      · exact core_B2f fs xs ys zs hf hx hy hz k hk w (by simpa using nxy) (by simpa using xf) e r2 r3 (sgn_lt d)
      · exact core_B2n fs xs ys zs hf hx hy hz k hk w (by simpa using nxy) (by simpa using xf) e r2 r3 (nf xf) (sgn_lt d)
    · have r5 : 0 ≤ sgn (dst (bv fs) (bv ys)) (dst (bv fs) (bv zs)) := by rcases sgn_cases (dst (bv fs) (bv ys)) (dst (bv fs) (bv zs)) with h | h | h <;> omega
      have r6 : 0 ≤ sgn (dst (bv fs) (bv xs)) (dst (bv fs) (bv zs)) := by rw [sgn_gt (by omega)]; decide
      by_cases xf : bv xs = bv fs
      · exact core_B1f fs xs ys zs hf hx hy hz k hk w (by simpa using nxy) (by simpa using xf) e r2 r3 r5 r6
      · exact core_B1n fs xs ys zs hf hx hy hz k hk w (by simpa using nxy) (by simpa using xf) e r2 r3 (nf xf) r5 r6
  · have exy : bv xs = bv ys := dst_inj hf.bounds hx.bounds hy.bounds c
    have r2 : sgn (dst (bv fs) (bv ys)) (dst (bv fs) (bv xs)) = 0 := sgn_eq c.symm
    rcases sgn_cases (dst (bv fs) (bv ys)) (dst (bv fs) (bv zs)) with ⟨d, h⟩ | ⟨d, h⟩ | ⟨d, h⟩
    · have r6 : sgn (dst (bv fs) (bv xs)) (dst (bv fs) (bv zs)) = -1 := by rw [c]; exact h
      by_cases xf : bv xs = bv fs
      · exact core_C1f fs xs ys zs hf hx hy hz k hk w (by simpa using exy) (by simpa using xf) e r2 r3 h r6
      · exact core_C1n fs xs ys zs hf hx hy hz k hk w (by simpa using exy) (by simpa using xf) e r2 r3 (nf xf) h r6
    · have r6 : sgn (dst (bv fs) (bv xs)) (dst (bv fs) (bv zs)) = 1 := by rw [c]; exact h
      by_cases xf : bv xs = bv fs
      · exact core_C3f fs xs ys zs hf hx hy hz k hk w (by simpa using exy) (by simpa using xf) e r2 r3 h r6
      · exact core_C3n fs xs ys zs hf hx hy hz k hk w (by simpa using exy) (by simpa using xf) e r2 r3 (nf xf) h r6
    · have r6 : sgn (dst (bv fs) (bv xs)) (dst (bv fs) (bv zs)) = 0 := by rw [c]; exact h
      by_cases xf : bv xs = bv fs
      · exact core_C2f fs xs ys zs hf hx hy hz k hk w (by simpa using exy) (by simpa using xf) e r2 r3 h r6
      · exact core_C2n fs xs ys zs hf hx hy hz k hk w (by simpa using exy) (by simpa using xf) e r2 r3 (nf xf) h r6

set_option maxRecDepth 100000 in
theorem early (fs xs ys zs : List Int) (hf : Id20 fs) (hx : Id20 xs) (hy : Id20 ys) (hz : Id20 zs) (k : Int) (hk : k < 0 ∨ (0 ≤ k ∧ 159 < k)) (w : World) :
    Calls Try.prog 5 #[.agg (idc fs), .agg (idc xs), .agg (idc ys), .agg (idc zs), .int .i64 k] w fun e w' => e = .returned (.bool true) ∧ Below w.heap.size w w' := by
  rcases hk with h | ⟨h0, h⟩
  all_goals
    go_enter Try.func5, Try.ntmps5
    go_wp2_with (refine wpl_box rfl _ rfl _ rfl (by assumption) ?_; intro g w' hs hb hl)
    go_ret
    refine ⟨rfl, ?_⟩
    repeat (first | assumption | (apply Below.via; focus assumption))

theorem walk (fs xs ys zs : List Int) (k : Int) (hf : Id20 fs) (hx : Id20 xs) (hy : Id20 ys) (hz : Id20 zs) (wk : (Lit.int .i64 k).wf = true) (w : World) :
    Calls Try.prog 5 #[.agg (idc fs), .agg (idc xs), .agg (idc ys), .agg (idc zs), .int .i64 k] w fun e w' => e = .returned (.bool true) ∧ Below w.heap.size w w' := by
  by_cases h0 : k < 0
  · exact early fs xs ys zs hf hx hy hz k (.inl h0) w
  · by_cases h1 : 159 < k
    · exact early fs xs ys zs hf hx hy hz k (.inr ⟨by omega, h1⟩) w
    · obtain ⟨n, rfl⟩ := Int.eq_ofNat_of_zero_le (show 0 ≤ k by omega)
      exact core fs xs ys zs hf hx hy hz n (by omega) w

/-! ### THE ROW's STEP, after the guide's frame -/
set_option maxRecDepth 100000 in
theorem lifted (os : Os) (started : os.Started) (H : Type) (enc : TypeId × Value → H) :
    ReturnsInHanded {} Try.checked os 5 .any (Rows.fnCompareFromIsRingOrderSpec.pre6 enc Try.prog Try.f5 Rows.fnCompareFromIsRingOrderRow.domain false) (Rows.fnCompareFromIsRingOrderSpec.post enc Try.prog Try.f5 false true false false) := by
  refine returnsInHanded_of_change (C := Try.checked) own started (by kernel_rfl) Try.func5
    (ChangeSpec.witness6 (enc := enc) (C := Try.checked) false ⟨#[], #[.agg (idc zeros), .agg (idc zeros), .agg (idc zeros), .agg (idc zeros), .int .i64 0], []⟩ 8 (by kernel_rfl) (by kernel_rfl) (by kernel_rfl) (by kernel_rfl)) ?_
  intro W base args ds gs before hval0 hW hcnd _
  have hval : ∀ (j : Nat) t v, Try.f5.params[j]? = some t → args[j]? = some v → Value.okWide Try.prog W .any base t v := hval0
  have hW' := hW
  obtain ⟨p, q, hA0, hV, rfl, hfz, hnd⟩ := hW
  have hA : DataW.TrodAll enc Try.prog W 0 (fun _ => true) true Try.f5.params.toList args.toList ds p := hA0
  rw [Try.params5] at hA hval
  obtain ⟨v0, vs0, d0, ds0, p0, q0, hargs, rfl, rfl, h0, r0⟩ := trodAll_cons hA
  obtain ⟨v1, vs1, d1, ds1, p1, q1, rfl, rfl, rfl, h1, r1⟩ := trodAll_cons r0
  obtain ⟨v2, vs2, d2, ds2, p2, q2, rfl, rfl, rfl, h2, r2⟩ := trodAll_cons r1
  obtain ⟨v3, vs3, d3, ds3, p3, q3, rfl, rfl, rfl, h3, r3⟩ := trodAll_cons r2
  obtain ⟨v4, vs4, d4, ds4, p4, q4, rfl, rfl, rfl, h4, r4⟩ := trodAll_cons r3
  obtain ⟨rfl, rfl, rfl⟩ := trodAll_nil r4
  obtain rfl : args = #[v0, v1, v2, v3, v4] := by cases args; simp_all
  obtain ⟨rfl, rfl⟩ := trodVars_none hV
  have k0 := h0
  have lt0 : ∀ x ∈ p0, x.block < W.heap.size := by obtain ⟨m, hm⟩ := k0; exact DataW.trod_lt m _ _ _ hm
  obtain ⟨a0, i0, rfl⟩ := open_id (hval 0 25 v0 rfl rfl) h0
  have k1 := h1
  have lt1 : ∀ x ∈ p1, x.block < W.heap.size := by obtain ⟨m, hm⟩ := k1; exact DataW.trod_lt m _ _ _ hm
  obtain ⟨a1, i1, rfl⟩ := open_id (hval 1 25 v1 rfl rfl) h1
  have k2 := h2
  have lt2 : ∀ x ∈ p2, x.block < W.heap.size := by obtain ⟨m, hm⟩ := k2; exact DataW.trod_lt m _ _ _ hm
  obtain ⟨a2, i2, rfl⟩ := open_id (hval 2 25 v2 rfl rfl) h2
  have k3 := h3
  have lt3 : ∀ x ∈ p3, x.block < W.heap.size := by obtain ⟨m, hm⟩ := k3; exact DataW.trod_lt m _ _ _ hm
  obtain ⟨a3, i3, rfl⟩ := open_id (hval 3 25 v3 rfl rfl) h3
  have k4 := h4
  have lt4 : ∀ x ∈ p4, x.block < W.heap.size := by obtain ⟨m, hm⟩ := k4; exact DataW.trod_lt m _ _ _ hm
  obtain ⟨a4, rfl, rfl, rfl, w4⟩ := open_int Try.underlying3 (hval 4 3 v4 rfl rfl) h4
  clear hA0 hval0
  refine (walk a0 a1 a2 a3 a4 i0 i1 i2 i3 w4 W).mono fun e W' ⟨he, bel⟩ => ?_
  subst he
  exact ⟨_, rfl, _, _, _, [], _, [], hW', trodAll_mk1 (shut_bool Try.underlying4 _), (trodAll_cons_mk (Below.trod laidOut (by kernel_rfl) (of_decide_eq_true (by kernel_rfl)) k0 bel lt0) (trodAll_cons_mk (Below.trod laidOut (by kernel_rfl) (of_decide_eq_true (by kernel_rfl)) k1 bel lt1) (trodAll_cons_mk (Below.trod laidOut (by kernel_rfl) (of_decide_eq_true (by kernel_rfl)) k2 bel lt2) (trodAll_cons_mk (Below.trod laidOut (by kernel_rfl) (of_decide_eq_true (by kernel_rfl)) k3 bel lt3) (trodAll_cons_mk (Below.trod laidOut (by kernel_rfl) (of_decide_eq_true (by kernel_rfl)) k4 bel lt4) trodAll_mk0))))), rfl, bel.frame _, fun h => by cases h⟩

theorem over : Rows.fnCompareFromIsRingOrderRow.holds Try.pinned (OpenSpec.ofChange Rows.fnCompareFromIsRingOrderSpec) :=
  OpenClaim.holds_of_wide 5 Try.f5 rfl rfl rfl rfl rfl rfl rfl ⟨rfl, rfl, rfl, rfl, rfl⟩ rfl rfl rfl rfl rfl (by kernel_rfl) Try.func5 (by kernel_rfl)
    (of_decide_eq_true (by kernel_rfl)) (by unfold Func.isWrapper; first | (rw [if_pos (by decide +kernel)]; kernel_rfl) | (rw [if_neg (by decide +kernel)]; exact ⟨rfl, rfl⟩))
    (fun os started H enc _ => lifted os started H enc)

/-- THE STATEMENT -/
theorem proved : Rows.FnCompareFromIsRingOrderSaid := over
#print axioms proved
end Go.Proofs.Qxb6001691a.fnCompareFromIsRingOrder
