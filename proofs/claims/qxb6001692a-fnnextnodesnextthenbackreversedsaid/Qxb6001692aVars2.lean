import Derived.Test.Qxb6001692aVars
namespace Go.Proofs.Qxb6001692a
open Go.ChangeShapes Go.WideShapes Go.ChangeAt Go.RowKit
set_option linter.unusedVariables false

theorem wp_vars {ops : Array Oper} {n : Nat} {src ls vs : Nat → Nat} {xs : Nat → List Int} {gs : Nat → Nat} {a : Act} {w : World} {Q : Exit → Act → World → Prop} {id : Nat} (R : VarsRegion ops n src ls vs)
    (hlt : ∀ j, j < n → ls j < a.tmps.size ∧ vs j < a.tmps.size)
    (hd1 : ∀ i j, i < n → j < n → ls i ≠ vs j) (hd2 : ∀ i j, i < n → j < n → i ≠ j → ls i ≠ ls j ∧ vs i ≠ vs j) (hd3 : ∀ i j, i < n → j < n → src i ≠ ls j ∧ src i ≠ vs j)
    (hsrc : ∀ j, j < n → a.tmps[src j]? = some (.pointer (some ⟨gs j, 0, none⟩)) ∧ Has w (gs j) (xs j))
    (hw : ∀ i o, ops[i]? = some o → ∀ e ∈ o.after, Region.binds .any e = true → e.on < i)
    (K : ∀ (gv : Nat → Nat) (b : Act) (w' : World), b.defers = a.defers → b.tmps.size = a.tmps.size → (∀ k, (∀ j, j < n → k ≠ ls j ∧ k ≠ vs j) → b.tmps[k]? = a.tmps[k]?) → Below w.heap.size w w' →
      (∀ j, j < n → b.tmps[ls j]? = some (.agg (idc (xs j))) ∧ b.tmps[vs j]? = some (.pointer (some ⟨gv j, 0, none⟩)) ∧ Has w' (gv j) (xs j)) → Q .normal b w') : (Code.region id ops true).wp Try.prog Q a w := by
  have hsrc' : ∀ j, j < n → a.tmps[src j]? = some (.pointer (some ⟨gs j, 0, none⟩)) ∧ Has w.drew (gs j) (xs j) := hsrc
  refine wp_region_inv (by kernel_rfl) (fun listed b w' => listed.size = ops.size ∧ VarsInv n src ls vs xs a w.drew listed b w') ?_ ?_ ?_
  · refine ⟨by simp, rfl, rfl, fun _ _ => rfl, Below.refl _ _, ?_, ?_, ?_, ?_⟩
    all_goals
      intros
      have := ‹(Array.replicate ops.size false).getD _ false = true›
      simp [Array.getD_eq_getD_getElem?, Array.getElem?_replicate] at this
      split at this <;> simp at this
  · rintro listed b w' ⟨hs, I⟩ hr
    have hall := all_listed hs hw hr
    have hsz := R.size
    refine K (fun j => match b.tmps[vs j]? with | some (.pointer (some g)) => g.block | _ => 0) b w' I.defers I.size I.other ⟨I.bel.os, I.bel.tape, I.bel.output, I.bel.size, I.bel.block⟩ fun j hj => ?_
    obtain ⟨g, e1, _, _, e4⟩ := I.made j hj (hall _ (by omega))
    refine ⟨I.loaded j hj (hall _ (by omega)), ?_, ?_⟩
    · rw [e1]
    · rw [e1]; exact e4 (hall _ (by omega))
  · rintro listed b w' i ⟨hs, I⟩ hi
    refine wpOp_mono ?_ (VarsInv.step R hlt hd1 hd2 hd3 hsrc' listed b w' i I hi)
    exact fun b' w2 h => ⟨by simpa using hs, h⟩

theorem put_defers {a : Act} {d : Nat} {v : Value} : (a.put (some d) v).defers = a.defers := rfl
theorem act_ext {a b : Act} (h1 : b.defers = a.defers) (h2 : ∀ k : Nat, b.tmps[k]? = a.tmps[k]?) : b = a := by
  obtain ⟨t, d⟩ := a
  obtain ⟨t', d'⟩ := b
  have e1 : d' = d := h1
  have e2 : t' = t := Array.ext_getElem? h2
  rw [e1, e2]

theorem wp_vars2 {ops : Array Oper} {s1 s2 l1 l2 v1 v2 : Nat} {x1 x2 : List Int} {g1 g2 : Nat} {a : Act} {w : World} {Q : Exit → Act → World → Prop} {id : Nat}
    (R : VarsRegion ops 2 (fun j => [s1, s2].getD j 0) (fun j => [l1, l2].getD j 0) (fun j => [v1, v2].getD j 0))
    (hlt : l1 < a.tmps.size ∧ l2 < a.tmps.size ∧ v1 < a.tmps.size ∧ v2 < a.tmps.size)
    (hnd : [l1, l2, v1, v2].Nodup) (hs1 : s1 ∉ [l1, l2, v1, v2]) (hs2 : s2 ∉ [l1, l2, v1, v2])
    (h1 : a.tmps[s1]? = some (.pointer (some ⟨g1, 0, none⟩))) (H1 : Has w g1 x1) (h2 : a.tmps[s2]? = some (.pointer (some ⟨g2, 0, none⟩))) (H2 : Has w g2 x2)
    (hw : ∀ i o, ops[i]? = some o → ∀ e ∈ o.after, Region.binds .any e = true → e.on < i)
    (K : ∀ (gv1 gv2 : Nat) (w' : World), Has w' gv1 x1 → Has w' gv2 x2 → Below w.heap.size w w' →
      Q .normal ((((a.put (some l1) (.agg (idc x1))).put (some l2) (.agg (idc x2))).put (some v1) (.pointer (some ⟨gv1, 0, none⟩))).put (some v2) (.pointer (some ⟨gv2, 0, none⟩))) w') : (Code.region id ops true).wp Try.prog Q a w := by
  simp at hnd hs1 hs2
  have c2 : ∀ {p : Nat → Prop}, p 0 → p 1 → ∀ j, j < 2 → p j := fun {p} h0 h1 j hj => by
    match j, hj with
    | 0, _ => exact h0
    | 1, _ => exact h1
  refine wp_vars (n := 2) (xs := fun j => [x1, x2].getD j []) (gs := fun j => [g1, g2].getD j 0) R ?_ ?_ ?_ ?_ ?_ hw ?_
  · exact c2 ⟨hlt.1, hlt.2.2.1⟩ ⟨hlt.2.1, hlt.2.2.2⟩
  · intro i j hi hj
    revert j hj; revert i hi
    refine c2 (c2 ?_ ?_) (c2 ?_ ?_) <;> simp <;> omega
  · intro i j hi hj
    revert j hj; revert i hi
    refine c2 (c2 ?_ ?_) (c2 ?_ ?_) <;> simp <;> omega
  · intro i j hi hj
    revert j hj; revert i hi
    refine c2 (c2 ?_ ?_) (c2 ?_ ?_) <;> simp <;> omega
  · exact c2 ⟨h1, H1⟩ ⟨h2, H2⟩
  · intro gv b w' hdf hsz hoth hb hall
    have a0 := hall 0 (by omega)
    have a1 := hall 1 (by omega)
    simp only [List.getD_cons_zero, List.getD_cons_succ] at a0 a1
    have := K (gv 0) (gv 1) w' a0.2.2 a1.2.2 hb
    rw [act_ext (a := (((a.put (some l1) (.agg (idc x1))).put (some l2) (.agg (idc x2))).put (some v1) (.pointer (some ⟨gv 0, 0, none⟩))).put (some v2) (.pointer (some ⟨gv 1, 0, none⟩))) (b := b) (by simp only [put_defers]; exact hdf) ?_]
    · exact this
    · intro k
      rw [put_slot (by simp only [put_size]; omega), put_slot (by simp only [put_size]; omega), put_slot (by simp only [put_size]; omega), put_slot (by omega)]
      by_cases k4 : k = v2
      · subst k4; rw [if_pos rfl]; exact a1.2.1
      by_cases k3 : k = v1
      · subst k3; rw [if_neg k4, if_pos rfl]; exact a0.2.1
      by_cases k2 : k = l2
      · subst k2; rw [if_neg k4, if_neg k3, if_pos rfl]; exact a1.1
      by_cases k1 : k = l1
      · subst k1; rw [if_neg k4, if_neg k3, if_neg k2, if_pos rfl]; exact a0.1
      rw [if_neg k4, if_neg k3, if_neg k2, if_neg k1]
      refine hoth k (c2 ?_ ?_) <;> simp <;> omega

set_option maxHeartbeats 1000000 in
theorem wp_vars3 {ops : Array Oper} {s1 s2 s3 l1 l2 l3 v1 v2 v3 : Nat} {x1 x2 x3 : List Int} {g1 g2 g3 : Nat} {a : Act} {w : World} {Q : Exit → Act → World → Prop} {id : Nat}
    (R : VarsRegion ops 3 (fun j => [s1, s2, s3].getD j 0) (fun j => [l1, l2, l3].getD j 0) (fun j => [v1, v2, v3].getD j 0))
    (hlt : l1 < a.tmps.size ∧ l2 < a.tmps.size ∧ l3 < a.tmps.size ∧ v1 < a.tmps.size ∧ v2 < a.tmps.size ∧ v3 < a.tmps.size)
    (hnd : [l1, l2, l3, v1, v2, v3].Nodup) (hs1 : s1 ∉ [l1, l2, l3, v1, v2, v3]) (hs2 : s2 ∉ [l1, l2, l3, v1, v2, v3]) (hs3 : s3 ∉ [l1, l2, l3, v1, v2, v3])
    (h1 : a.tmps[s1]? = some (.pointer (some ⟨g1, 0, none⟩))) (H1 : Has w g1 x1) (h2 : a.tmps[s2]? = some (.pointer (some ⟨g2, 0, none⟩))) (H2 : Has w g2 x2) (h3 : a.tmps[s3]? = some (.pointer (some ⟨g3, 0, none⟩))) (H3 : Has w g3 x3)
    (hw : ∀ i o, ops[i]? = some o → ∀ e ∈ o.after, Region.binds .any e = true → e.on < i)
    (K : ∀ (gv1 gv2 gv3 : Nat) (w' : World), Has w' gv1 x1 → Has w' gv2 x2 → Has w' gv3 x3 → Below w.heap.size w w' →
      Q .normal ((((((a.put (some l1) (.agg (idc x1))).put (some l2) (.agg (idc x2))).put (some l3) (.agg (idc x3))).put (some v1) (.pointer (some ⟨gv1, 0, none⟩))).put (some v2) (.pointer (some ⟨gv2, 0, none⟩))).put (some v3) (.pointer (some ⟨gv3, 0, none⟩))) w') : (Code.region id ops true).wp Try.prog Q a w := by
  simp at hnd hs1 hs2 hs3
  have c3 : ∀ {p : Nat → Prop}, p 0 → p 1 → p 2 → ∀ j, j < 3 → p j := fun {p} h0 h1 h2 j hj => by
    match j, hj with
    | 0, _ => exact h0
    | 1, _ => exact h1
    | 2, _ => exact h2
  refine wp_vars (n := 3) (xs := fun j => [x1, x2, x3].getD j []) (gs := fun j => [g1, g2, g3].getD j 0) R ?_ ?_ ?_ ?_ ?_ hw ?_
  · exact c3 ⟨hlt.1, hlt.2.2.2.1⟩ ⟨hlt.2.1, hlt.2.2.2.2.1⟩ ⟨hlt.2.2.1, hlt.2.2.2.2.2⟩
  · intro i j hi hj
    revert j hj; revert i hi
    refine c3 (c3 ?_ ?_ ?_) (c3 ?_ ?_ ?_) (c3 ?_ ?_ ?_) <;> simp <;> (clear K hw R hlt; grind)
  · intro i j hi hj
    revert j hj; revert i hi
    refine c3 (c3 ?_ ?_ ?_) (c3 ?_ ?_ ?_) (c3 ?_ ?_ ?_) <;> simp <;> (clear K hw R hlt; grind)
  · intro i j hi hj
    revert j hj; revert i hi
    refine c3 (c3 ?_ ?_ ?_) (c3 ?_ ?_ ?_) (c3 ?_ ?_ ?_) <;> simp <;> (clear K hw R hlt; grind)
  · exact c3 ⟨h1, H1⟩ ⟨h2, H2⟩ ⟨h3, H3⟩
  · intro gv b w' hdf hsz hoth hb hall
    clear hnd hs1 hs2 hs3
    have a0 := hall 0 (by omega)
    have a1 := hall 1 (by omega)
    have a2 := hall 2 (by omega)
    simp only [List.getD_cons_zero, List.getD_cons_succ] at a0 a1 a2
    have := K (gv 0) (gv 1) (gv 2) w' a0.2.2 a1.2.2 a2.2.2 hb
    rw [act_ext (a := (((((a.put (some l1) (.agg (idc x1))).put (some l2) (.agg (idc x2))).put (some l3) (.agg (idc x3))).put (some v1) (.pointer (some ⟨gv 0, 0, none⟩))).put (some v2) (.pointer (some ⟨gv 1, 0, none⟩))).put (some v3) (.pointer (some ⟨gv 2, 0, none⟩))) (b := b) (by simp only [put_defers]; exact hdf) ?_]
    · exact this
    · intro k
      rw [put_slot (by simp only [put_size]; omega), put_slot (by simp only [put_size]; omega), put_slot (by simp only [put_size]; omega), put_slot (by simp only [put_size]; omega), put_slot (by simp only [put_size]; omega), put_slot (by omega)]
      by_cases k6 : k = v3
      · subst k6; rw [if_pos rfl]; exact a2.2.1
      by_cases k5 : k = v2
      · subst k5; rw [if_neg k6, if_pos rfl]; exact a1.2.1
      by_cases k4 : k = v1
      · subst k4; rw [if_neg k6, if_neg k5, if_pos rfl]; exact a0.2.1
      by_cases k3 : k = l3
      · subst k3; rw [if_neg k6, if_neg k5, if_neg k4, if_pos rfl]; exact a2.1
      by_cases k2 : k = l2
      · subst k2; rw [if_neg k6, if_neg k5, if_neg k4, if_neg k3, if_pos rfl]; exact a1.1
      by_cases k1 : k = l1
      · subst k1; rw [if_neg k6, if_neg k5, if_neg k4, if_neg k3, if_neg k2, if_pos rfl]; exact a0.1
      rw [if_neg k6, if_neg k5, if_neg k4, if_neg k3, if_neg k2, if_neg k1]
      refine hoth k (c3 ?_ ?_ ?_) <;> simp <;> (first | exact ⟨k1, k4⟩ | exact ⟨k2, k5⟩ | exact ⟨k3, k6⟩)
end Go.Proofs.Qxb6001692a
