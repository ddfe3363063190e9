import Derived.Test.Qxb6001692aDag
namespace Go.Proofs.Qxb6001692a
open Go.ChangeShapes Go.WideShapes Go.ChangeAt Go.RowKit

def puts : List Oper → List Value → Act → Act
  | o :: l, v :: vs, a => puts l vs (a.put o.dst v)
  | _, _, a => a
theorem puts_spec : ∀ (l : List Oper) (vs : List Value) (a : Act), (∀ j o d, j < vs.length → l[j]? = some o → o.dst = some d → d < a.tmps.size) → (∀ i o, i < vs.length → l[i]? = some o → ∃ d, o.dst = some d) →
    (∀ (i j : Nat) (oi oj : Oper) (d : Nat), i < vs.length → j < vs.length → l[i]? = some oi → l[j]? = some oj → oi.dst = some d → oj.dst = some d → i = j) →
    (puts l vs a).defers = a.defers ∧ (puts l vs a).tmps.size = a.tmps.size ∧ (∀ k, (∀ j o, j < vs.length → l[j]? = some o → o.dst ≠ some k) → (puts l vs a).tmps[k]? = a.tmps[k]?) ∧
      (∀ (j : Nat) (o : Oper) (v : Value) (d : Nat), l[j]? = some o → vs[j]? = some v → o.dst = some d → (puts l vs a).tmps[d]? = some v)
  | [], vs, a, _, _, _ => ⟨rfl, rfl, fun _ _ => rfl, fun j o v d h => by simp at h⟩
  | o :: l, [], a, _, _, _ => ⟨rfl, rfl, fun _ _ => rfl, fun j o v d _ h => by simp at h⟩
  | o :: l, v :: vs, a, h1, h2, h3 => by
    obtain ⟨d, hd⟩ := h2 0 o (by simp) rfl
    have hdl := h1 0 o d (by simp) rfl hd
    have ih := puts_spec l vs (a.put o.dst v) (fun j oj dj hj hoj hdj => by
        rw [hd, put_size]; exact h1 (j + 1) oj dj (by simpa using hj) (by simpa using hoj) hdj)
      (fun i oi hi hoi => h2 (i + 1) oi (by simpa using hi) (by simpa using hoi))
      (fun i j oi oj dd hi hj hoi hoj hdi hdj => by have := h3 (i + 1) (j + 1) oi oj dd (by simpa using hi) (by simpa using hj) (by simpa using hoi) (by simpa using hoj) hdi hdj; omega)
    obtain ⟨e1, e2, e3, e4⟩ := ih
    have hps : ∀ k, (a.put o.dst v).tmps[k]? = if k = d then some v else a.tmps[k]? := fun k => by rw [hd]; exact put_slot hdl
    refine ⟨by rw [puts, e1, hd]; rfl, by rw [puts, e2, hd, put_size], fun k hk => ?_, fun j oj vj dj hoj hvj hdj => ?_⟩
    · have := e3 k fun j oj hj hoj => hk (j + 1) oj (by simpa using hj) (by simpa using hoj)
      rw [puts, this, hps, if_neg]
      intro e
      exact hk 0 o (by simp) rfl (by rw [e]; exact hd)
    · cases j with
      | succ j => exact e4 j oj vj dj (by simpa using hoj) (by simpa using hvj) hdj
      | zero =>
        simp only [List.getElem?_cons_zero, Option.some.injEq] at hoj hvj
        subst hoj hvj
        rw [hd] at hdj
        obtain rfl := Option.some.inj hdj
        rw [puts, e3 d fun j oj hj hoj hdj => ?_, hps, if_pos rfl]
        have := h3 0 (j + 1) o oj d (by simp) (by simpa using hj) rfl (by simpa using hoj) hd hdj
        omega

/-- What is asked of one operation. -/
structure StepOk (full : Act) (ia : Nat) (V : Bool → World → Prop) (Q : Exit → Act → World → Prop) (k : Nat) (o : Oper) (v : Value) : Prop where
  out : ∀ s w', V s w' → (k = ia → s = false) → ∀ (b : Act) (K : Act → World → Prop), (∀ w'', V (s || ia == k) w'' → K (b.put o.dst v) w'') → o.upon Try.prog b K Q ((execOp full.eval o).run Try.prog w')
def Steps (S : Nat → Oper → Value → Prop) : Nat → List Oper → List Value → Prop
  | k, o :: l, v :: vs => S k o v ∧ Steps S (k + 1) l vs
  | _, _, _ => True
theorem Steps.at {S : Nat → Oper → Value → Prop} : ∀ {k : Nat} {l : List Oper} {vs : List Value}, Steps S k l vs → ∀ i o v, l[i]? = some o → vs[i]? = some v → S (k + i) o v
  | _, [], _, _, i, o, v, h, _ => by simp at h
  | _, _ :: _, [], _, i, o, v, _, h => by simp at h
  | k, o' :: l, v' :: vs, h, 0, o, v, ho, hv => by
    simp only [List.getElem?_cons_zero, Option.some.injEq] at ho hv
    subst ho hv
    exact h.1
  | k, o' :: l, v' :: vs, h, i + 1, o, v, ho, hv => by
    have := Steps.at h.2 i o v (by simpa using ho) (by simpa using hv)
    rwa [show k + 1 + i = k + (i + 1) by omega] at this

theorem wp_region_dag2 {id : Nat} {l : List Oper} {a : Act} {w : World} {Q : Exit → Act → World → Prop} (n : Nat) (vals : List Value) (ia : Nat) (V : Bool → World → Prop)
    (hm : Try.prog.follows .mixedOrders = true) (hD : dagB l n = true) (hv : vals.length = n)
    (hlt : (l.take n).all (fun o => match o.dst with | some d => decide (d < a.tmps.size) | none => true) = true)
    (h0 : V false w.drew)
    (hstep : Steps (StepOk (puts l vals a) ia V Q) 0 l vals)
    (hlast : ∀ s w', V s w' → (ia < n → s = true) → wpList Try.prog l.toArray Q (l.drop n) (puts l vals a) w') : (Code.region id l.toArray true).wp Try.prog Q a w := by
  have D := dag_of hD
  have hlt' : ∀ (j : Nat) (o : Oper) (d : Nat), j < n → l[j]? = some o → o.dst = some d → d < a.tmps.size := fun j o d hj ho hd => by
    have := List.all_eq_true.1 hlt o (List.mem_of_getElem? (i := j) (by rw [List.getElem?_take, if_pos hj]; exact ho))
    rw [hd] at this
    simpa using this
  obtain ⟨e1, e2, e3, e4⟩ := puts_spec l vals a (fun j o d hj => hlt' j o d (by omega)) (fun i o hi => D.dst i o (by omega)) (fun i j oi oj d hi hj => D.dist i j oi oj d (by omega) (by omega))
  refine wp_region_dag n vals ia V hm hD hv hlt' ⟨e1, e2, fun k hk => e3 k fun j o hj ho => hk j o (by omega) ho rfl, fun j o v d _ ho _ hvj hd => e4 j o v d ho hvj hd⟩ h0 ?_ ?_
  · intro i o v hi ho hvi s w' hV hs b K hK
    have := (Steps.at hstep i o v ho hvi).out s w' hV (by simpa using hs) b K (by simpa using hK)
    exact this
  · intro o s w' ho hV hs
    have := hlast s w' hV hs
    have hd : l.drop n = [o] := by
      have hn : n < l.length := by have := D.len; omega
      rw [List.drop_eq_getElem_cons hn, List.drop_eq_nil_of_le (by have := D.len; omega)]
      rw [List.getElem?_eq_getElem hn] at ho
      rw [Option.some.inj ho]
    rwa [hd] at this

section
variable {full : Act} {ia : Nat} {V : Bool → World → Prop} {Q : Exit → Act → World → Prop} {k : Nat} {o : Oper} {v : Value}
/-- A read. -/
theorem step_val (hk : (ia == k) = false) (h : ∀ s w', V s w' → (execOp full.eval o).run Try.prog w' = .ok (.value v) w') : StepOk full ia V Q k o v :=
  ⟨fun s w' hV _ b K hK => by rw [h s w' hV]; exact hK w' (by rw [hk, Bool.or_false]; exact hV)⟩
/-- A call. -/
theorem step_call (hk : (ia == k) = false) (f : FuncId) (args : Array Value) (hr : ∀ w', (execOp full.eval o).run Try.prog w' = .ok (.enter f args) w')
    (h : ∀ s w', V s w' → Calls Try.prog f args w' fun e w'' => e = .returned v ∧ V s w'') : StepOk full ia V Q k o v :=
  ⟨fun s w' hV _ b K hK => by
    rw [hr w', Oper.upon_enter]
    refine (h s w' hV).mono fun e w'' ⟨he, hV'⟩ => ?_
    subst he
    exact hK w'' (by rw [hk, Bool.or_false]; exact hV')⟩
/-- A new peer variable. -/
theorem step_alloc39 (hk : ia = k) (ho : o.op = .alloc 39) (h : ∀ w', V false w' → v = .pointer (some ⟨w'.heap.size, 0, none⟩) ∧ V true (w'.alloc (.cells (pc (ByteArray.empty, zeros)).toArray 39))) : StepOk full ia V Q k o v :=
  ⟨fun s w' hV hs b K hK => by
    obtain rfl := hs hk.symm
    obtain ⟨hv, hV'⟩ := h w' hV
    unfold execOp
    simp only [ho, Instr.alloc, Sem.run_bind, run_zero39, Result.andThen_ok]
    have := hK _ (by rw [hk]; simpa using hV')
    rw [hv] at this
    exact this⟩
end
end Go.Proofs.Qxb6001692a
