import Derived.Test.Qxb6001692aMv3
namespace Go.Proofs.Qxb6001692a
open Go.ChangeShapes Go.WideShapes Go.ChangeAt Go.RowKit
set_option linter.unusedVariables false

theorem eval_slot {a : Act} {d : Nat} {v : Value} (h : a.tmps[d]? = some v) : a.eval (.tmp d) = v := by
  simp [Act.eval, h]
theorem put_slot {a : Act} {d k : Nat} {v : Value} (h : d < a.tmps.size) : (a.put (some d) v).tmps[k]? = if k = d then some v else a.tmps[k]? := by
  simp only [Act.put, Array.getElem?_setIfInBounds]
  by_cases e : d = k
  · subst e; simp [h]
  · simp [e, Ne.symm e]
theorem put_size {a : Act} {d : Nat} {v : Value} : (a.put (some d) v).tmps.size = a.tmps.size := by simp [Act.put]
theorem listed_set {listed : Array Bool} {i k : Nat} (h : listed.getD i true = false) : (listed.setIfInBounds i true).getD k false = (if k = i then true else listed.getD k false) := by
  have hi : i < listed.size := by
    rcases Nat.lt_or_ge i listed.size with g | g
    · exact g
    · rw [Array.getD_eq_getD_getElem?, Array.getElem?_eq_none g] at h; simp at h
  rw [Array.getD_eq_getD_getElem?, Array.getD_eq_getD_getElem?, Array.getElem?_setIfInBounds]
  by_cases e : i = k
  · subst e; simp [hi]
  · simp [e, Ne.symm e]
theorem listed_false {listed : Array Bool} {i : Nat} (h : listed.getD i true = false) : listed.getD i false = false := by
  rw [Array.getD_eq_getD_getElem?] at h ⊢
  cases e : listed[i]? with
  | none => rfl
  | some b => rw [e] at h; simpa using h

theorem wp_alloc26 {o : Oper} {a : Act} {w : World} {K : Act → World → Prop} {Q : Exit → Act → World → Prop} (ho : o.op = .alloc 26)
    (h : ∀ (g : Nat) (w' : World), Has w' g zeros → Below w.heap.size w w' → w.heap.size ≤ g → K (a.put o.dst (.pointer (some ⟨g, 0, none⟩))) w') : o.wp Try.prog a w K Q := by
  have hh := h w.heap.size (w.alloc (.cells (idc zeros) 26)) (Has.new w zeros_id 26) ((Below.refl _ _).alloc (Nat.le_refl _) _) (Nat.le_refl _)
  unfold Oper.wp execOp
  simp only [ho, Instr.alloc, Sem.run_bind, run_zero26, Result.andThen_ok]
  exact hh
theorem wp_store26 {o : Oper} {a : Act} {w : World} {K : Act → World → Prop} {Q : Exit → Act → World → Prop} (x y : Operand) (ho : o.op = .store 26 x y)
    (g : Nat) (hx : a.eval x = .pointer (some ⟨g, 0, none⟩)) (xs : List Int) (hy : a.eval y = .agg (idc xs)) (hi : Id20 xs) (ys : List Int) (hg : Has w g ys)
    (h : ∀ w' : World, Has w' g xs → (∀ B, B ≤ g → Below B w w') → (∀ k, k ≠ g → w'.heap[k]? = w.heap[k]?) → K (a.put o.dst undef) w') : o.wp Try.prog a w K Q := by
  obtain ⟨hyi, t, hg⟩ := hg
  have hs : (idc ys).size = (idc xs).size := by rw [idc_size, idc_size, hyi.1, hi.1]
  have hr := run_storeVar_row (P := Try.prog) w g t 26 (idc ys) (idc xs) hg (by rw [idc_size, hi.1]; exact size26) hs (idc_one xs)
  have hk : ∀ k, k ≠ g → (w.setRow g (idc xs)).heap[k]? = w.heap[k]? := fun k hk => setRow_other w g k _ (by omega)
  have hh := h (w.setRow g (idc xs)) ⟨hi, t, setRow_heap w g _ _ t _ hg⟩ (fun B hB => ⟨rfl, rfl, rfl, by simp, fun k hk' => hk k (by omega)⟩) hk
  unfold Oper.wp execOp
  simp only [ho]
  rw [hx, hy]
  simp only [Instr.storeAt, Instr.sureAddr, Sem.run_bind, Sem.run_pure, Result.andThen_ok, hr]
  exact hh

/-- 'v1, .., vn := x1, .., xn', identifiers: n loads, n new variables, n stores, in whatever order the region allows. What is asked of the region: each store waits for its own load and its own variable. -/
structure VarsRegion (ops : Array Oper) (n : Nat) (src ls vs : Nat → Nat) : Prop where
  size : ops.size = 3 * n
  load : ∀ j, j < n → ∃ o, ops[j]? = some o ∧ o.op = .load 22 (.tmp (src j)) ∧ o.dst = some (ls j) ∧ o.guard = none
  new : ∀ j, j < n → ∃ o, ops[n + j]? = some o ∧ o.op = .alloc 26 ∧ o.dst = some (vs j) ∧ o.guard = none
  store : ∀ j, j < n → ∃ o, ops[2 * n + j]? = some o ∧ o.op = .store 26 (.tmp (vs j)) (.tmp (ls j)) ∧ o.dst = none ∧ o.guard = none ∧
    (∃ e ∈ o.after, Region.binds .any e = true ∧ e.on = j) ∧ (∃ e ∈ o.after, Region.binds .any e = true ∧ e.on = n + j)

structure VarsInv (n : Nat) (src ls vs : Nat → Nat) (xs : Nat → List Int) (a : Act) (w : World) (listed : Array Bool) (b : Act) (w' : World) : Prop where
  defers : b.defers = a.defers
  size : b.tmps.size = a.tmps.size
  other : ∀ k, (∀ j, j < n → k ≠ ls j ∧ k ≠ vs j) → b.tmps[k]? = a.tmps[k]?
  bel : Below w.heap.size w w'
  dep : ∀ j, j < n → listed.getD (2 * n + j) false = true → listed.getD (n + j) false = true
  loaded : ∀ j, j < n → listed.getD j false = true → b.tmps[ls j]? = some (.agg (idc (xs j)))
  made : ∀ j, j < n → listed.getD (n + j) false = true → ∃ g, b.tmps[vs j]? = some (.pointer (some ⟨g, 0, none⟩)) ∧ w.heap.size ≤ g ∧
    (listed.getD (2 * n + j) false = false → Has w' g zeros) ∧ (listed.getD (2 * n + j) false = true → Has w' g (xs j))
  apart : ∀ i j g g', i < n → j < n → i ≠ j → listed.getD (n + i) false = true → listed.getD (n + j) false = true → b.tmps[vs i]? = some (.pointer (some ⟨g, 0, none⟩)) → b.tmps[vs j]? = some (.pointer (some ⟨g', 0, none⟩)) → g ≠ g'

theorem VarsInv.step {ops : Array Oper} {n : Nat} {src ls vs : Nat → Nat} {xs : Nat → List Int} {gs : Nat → Nat} {a : Act} {w : World} {Q : Exit → Act → World → Prop} (R : VarsRegion ops n src ls vs)
    (hlt : ∀ j, j < n → ls j < a.tmps.size ∧ vs j < a.tmps.size)
    (hd1 : ∀ i j, i < n → j < n → ls i ≠ vs j) (hd2 : ∀ i j, i < n → j < n → i ≠ j → ls i ≠ ls j ∧ vs i ≠ vs j) (hd3 : ∀ i j, i < n → j < n → src i ≠ ls j ∧ src i ≠ vs j)
    (hsrc : ∀ j, j < n → a.tmps[src j]? = some (.pointer (some ⟨gs j, 0, none⟩)) ∧ Has w (gs j) (xs j))
    (listed : Array Bool) (b : Act) (w' : World) (i : Nat) (I : VarsInv n src ls vs xs a w listed b w') (hi : i ∈ Region.ready .any ops listed) :
    wpOp Try.prog ops Q i (VarsInv n src ls vs xs a w (listed.setIfInBounds i true)) b w' := by
  obtain ⟨h1, h2, h3⟩ := ready_mem hi
  rw [R.size] at h1
  have hls := fun k => listed_set (k := k) h2
  have hlf := listed_false h2
  rcases Nat.lt_or_ge i n with c | c
  · -- a load
    obtain ⟨o, ho, hop, hdst, hg⟩ := R.load i c
    unfold wpOp
    rw [ho]
    simp only [Region.wanted, hg, if_true]
    refine .inl ?_
    have hsl : b.tmps[src i]? = some (.pointer (some ⟨gs i, 0, none⟩)) := by
      rw [I.other (src i) (fun j hj => hd3 i j c hj)]; exact (hsrc i c).1
    refine wp_load25 _ hop (gs i) (eval_slot hsl) (xs i) ((hsrc i c).2.below' I.bel) ?_
    rw [hdst]
    have hsz : ls i < b.tmps.size := by rw [I.size]; exact (hlt i c).1
    refine ⟨I.defers, put_size.trans I.size, fun k hk => ?_, I.bel, fun j hj hL => ?_, fun j hj hL => ?_, fun j hj hL => ?_, fun p q g g' hp hq hpq hLp hLq h4 h5 => ?_⟩
    · rw [put_slot hsz, if_neg (hk i c).1]; exact I.other k hk
    · rw [hls, if_neg (by omega)] at hL ⊢; exact I.dep j hj hL
    · rw [put_slot hsz]
      by_cases e : j = i
      · subst e; simp
      · rw [if_neg (fun h => (hd2 j i hj c e).1 h)]
        rw [hls, if_neg e] at hL
        exact I.loaded j hj hL
    · rw [hls, if_neg (by omega)] at hL
      obtain ⟨g, e1, e2, e3, e4⟩ := I.made j hj hL
      refine ⟨g, by rw [put_slot hsz, if_neg (fun h => hd1 i j c hj h.symm)]; exact e1, e2, ?_, ?_⟩
      · rw [hls, if_neg (by omega)]; exact e3
      · rw [hls, if_neg (by omega)]; exact e4
    · rw [hls, if_neg (by omega)] at hLp hLq
      rw [put_slot hsz, if_neg (fun h => hd1 i p c hp h.symm)] at h4
      rw [put_slot hsz, if_neg (fun h => hd1 i q c hq h.symm)] at h5
      exact I.apart p q g g' hp hq hpq hLp hLq h4 h5
  · rcases Nat.lt_or_ge i (2 * n) with c2 | c2
    · -- a new variable
      obtain ⟨j0, rfl⟩ : ∃ j, i = n + j := ⟨i - n, by omega⟩
      have c' : j0 < n := by omega
      obtain ⟨o, ho, hop, hdst, hg⟩ := R.new j0 c'
      unfold wpOp
      rw [ho]
      simp only [Region.wanted, hg, if_true]
      refine .inl ?_
      have hsz : vs j0 < b.tmps.size := by rw [I.size]; exact (hlt j0 c').2
      have hns : listed.getD (2 * n + j0) false = false := by
        cases hh : listed.getD (2 * n + j0) false with
        | false => rfl
        | true => rw [I.dep j0 c' hh] at hlf; exact absurd hlf (by decide)
      refine wp_alloc26 hop fun g w2 hz hb2 hg2 => ?_
      rw [hdst]
      refine ⟨I.defers, put_size.trans I.size, fun k hk => ?_, Below.chain I.bel hb2, fun j hj hL => ?_, fun j hj hL => ?_, fun j hj hL => ?_, fun p q g1 g1' hp hq hpq hLp hLq h4 h5 => ?_⟩
      · rw [put_slot hsz, if_neg (hk j0 c').2]; exact I.other k hk
      · rw [hls, if_neg (by omega)] at hL
        rw [hls]
        by_cases e : j = j0
        · subst e; simp
        · rw [if_neg (by omega)]; exact I.dep j hj hL
      · rw [hls, if_neg (by omega)] at hL
        rw [put_slot hsz, if_neg (hd1 j j0 hj c')]
        exact I.loaded j hj hL
      · rw [hls]
        have e2 : ¬ (2 * n + j = n + j0) := by omega
        rw [if_neg e2]
        by_cases e : j = j0
        · subst e
          refine ⟨g, by rw [put_slot hsz]; simp, Nat.le_trans I.bel.size hg2, fun _ => hz, fun h => ?_⟩
          rw [hns] at h; exact absurd h (by decide)
        · rw [hls, if_neg (by omega)] at hL
          obtain ⟨g1, e1, e3, e4, e5⟩ := I.made j hj hL
          refine ⟨g1, by rw [put_slot hsz, if_neg (hd2 j j0 hj c' e).2]; exact e1, e3, fun h => (e4 h).below' hb2, fun h => (e5 h).below' hb2⟩
      · by_cases ep : p = j0
        · subst ep
          have eq' : q ≠ p := Ne.symm hpq
          rw [hls, if_neg (by omega)] at hLq
          rw [put_slot hsz, if_neg (hd2 q p hq hp eq').2] at h5
          rw [put_slot hsz, if_pos rfl] at h4
          obtain ⟨g3, e1, e3, e4, e5⟩ := I.made q hq hLq
          rw [h5] at e1
          have e6 : g1' = g3 := by simpa using e1
          have e7 : g = g1 := by simpa using h4
          have hl3 : g3 < w'.heap.size := by
            cases hh : listed.getD (2 * n + q) false with
            | false => exact (e4 hh).lt
            | true => exact (e5 hh).lt
          omega
        · by_cases eq : q = j0
          · subst eq
            rw [hls, if_neg (by omega)] at hLp
            rw [put_slot hsz, if_neg (hd2 p q hp hq hpq).2] at h4
            rw [put_slot hsz, if_pos rfl] at h5
            obtain ⟨g3, e1, e3, e4, e5⟩ := I.made p hp hLp
            rw [h4] at e1
            have e6 : g1 = g3 := by simpa using e1
            have e7 : g = g1' := by simpa using h5
            have hl3 : g3 < w'.heap.size := by
              cases hh : listed.getD (2 * n + p) false with
              | false => exact (e4 hh).lt
              | true => exact (e5 hh).lt
            omega
          · rw [hls, if_neg (by omega)] at hLp hLq
            rw [put_slot hsz, if_neg (hd2 p j0 hp c' ep).2] at h4
            rw [put_slot hsz, if_neg (hd2 q j0 hq c' eq).2] at h5
            exact I.apart p q g1 g1' hp hq hpq hLp hLq h4 h5
    · -- a store
      obtain ⟨j0, rfl⟩ : ∃ j, i = 2 * n + j := ⟨i - 2 * n, by omega⟩
      have c' : j0 < n := by omega
      obtain ⟨o, ho, hop, hdst, hg, ⟨ed1, m1, b1, on1⟩, ⟨ed2, m2, b2, on2⟩⟩ := R.store j0 c'
      have L1 := h3 o ho ed1 m1 b1
      have L2 := h3 o ho ed2 m2 b2
      rw [on1] at L1
      rw [on2] at L2
      unfold wpOp
      rw [ho]
      simp only [Region.wanted, hg, if_true]
      refine .inl ?_
      obtain ⟨g, e1, e3, e4, e5⟩ := I.made j0 c' L2
      refine wp_store26 _ _ hop g (eval_slot e1) (xs j0) (eval_slot (I.loaded j0 c' L1)) (hsrc j0 c').2.id zeros (e4 hlf) fun w2 hs2 hb2 hk2 => ?_
      rw [hdst]
      show VarsInv n src ls vs xs a w _ b w2
      refine ⟨I.defers, I.size, I.other, I.bel.trans (hb2 _ e3), fun j hj hL => ?_, fun j hj hL => ?_, fun j hj hL => ?_, fun p q g1 g1' hp hq hpq hLp hLq h4 h5 => ?_⟩
      · rw [hls, if_neg (by omega)]
        by_cases e : j = j0
        · subst e; exact L2
        · rw [hls, if_neg (by omega)] at hL; exact I.dep j hj hL
      · rw [hls, if_neg (by omega)] at hL; exact I.loaded j hj hL
      · rw [hls, if_neg (by omega)] at hL
        rw [hls]
        by_cases e : j = j0
        · subst e
          refine ⟨g, e1, e3, fun h => ?_, fun _ => hs2⟩
          simp at h
        · obtain ⟨g1, f1, f3, f4, f5⟩ := I.made j hj hL
          have hne := I.apart j j0 g1 g hj c' e hL L2 f1 e1
          rw [if_neg (by omega)]
          exact ⟨g1, f1, f3, fun h => (f4 h).of_block (hk2 g1 hne), fun h => (f5 h).of_block (hk2 g1 hne)⟩
      · rw [hls, if_neg (by omega)] at hLp hLq
        exact I.apart p q g1 g1' hp hq hpq hLp hLq h4 h5

/-- All is listed at the end. -/
theorem all_listed {ops : Array Oper} {listed : Array Bool} (hs : listed.size = ops.size) (hw : ∀ i o, ops[i]? = some o → ∀ e ∈ o.after, Region.binds .any e = true → e.on < i) (h : Region.ready .any ops listed = []) :
    ∀ i, i < ops.size → listed.getD i false = true := by
  intro i
  induction i using Nat.strongRecOn with
  | ind i ih =>
    intro hi
    cases hh : listed.getD i false with
    | true => rfl
    | false =>
      have hm : i ∈ Region.ready .any ops listed := by
        unfold Region.ready
        rw [List.mem_filter, List.mem_range, Bool.and_eq_true]
        refine ⟨hi, ?_, ?_⟩
        · rw [Array.getD_eq_getD_getElem?, Array.getElem?_eq_getElem (by omega)] at hh ⊢
          simpa using hh
        · rw [Array.getElem?_eq_getElem hi]
          simp only [Option.map_some, Option.getD_some, Array.all_eq_true_iff_forall_mem]
          intro e he
          cases hb : Region.binds .any e with
          | false => rfl
          | true =>
            have := ih e.on (hw i _ (Array.getElem?_eq_getElem hi) e he hb) (Nat.lt_trans (hw i _ (Array.getElem?_eq_getElem hi) e he hb) hi)
            rw [this]; rfl
      rw [h] at hm; cases hm
end Go.Proofs.Qxb6001692a
