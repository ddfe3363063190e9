import Derived.Test.Qxb6001692aSl
namespace Go.Proofs.Qxb6001692a
open Go.ChangeShapes Go.WideShapes Go.ChangeAt Go.RowKit

/-! ### A region that draws its order, whose last operation waits for all others; the others' values are known ahead (one of them may make memory) -/
/-- The frame, when the operations in 'listed' (of the first n) have given their values. -/
structure Laid (l : List Oper) (vals : List Value) (n : Nat) (a : Act) (listed : Nat → Bool) (b : Act) : Prop where
  defers : b.defers = a.defers
  size : b.tmps.size = a.tmps.size
  old : ∀ k, (∀ j o, j < n → l[j]? = some o → listed j = true → o.dst ≠ some k) → b.tmps[k]? = a.tmps[k]?
  new : ∀ j o v d, j < n → l[j]? = some o → listed j = true → vals[j]? = some v → o.dst = some d → b.tmps[d]? = some v

def dagB (l : List Oper) (n : Nat) : Bool :=
  Region.noSelect l.toArray && decide (l.length = n + 1) && Region.sinkB .any l.toArray n && Region.chainB .any l.toArray n && l.all (fun o => o.guard.isNone) && (l.take n).all (fun o => o.dst.isSome) &&
  (List.range n).all (fun i => (List.range n).all fun j => decide (i = j) || decide ((l[i]?).bind (·.dst) ≠ (l[j]?).bind (·.dst))) &&
  (List.range (n + 1)).all (fun i => match l[i]? with
    | none => true
    | some o => o.after.all (fun e => !Region.binds .any e || decide (e.on < i)) &&
      (List.range n).all (fun j => match (l[j]?).bind (·.dst) with
        | none => true
        | some d => !((o.looksAt l.toArray).contains d) || o.after.any (fun e => Region.binds .any e && e.on == j)))

structure Dag (l : List Oper) (n : Nat) : Prop where
  sel : Region.noSelect l.toArray = true
  len : l.length = n + 1
  sink : Region.sinkB .any l.toArray n = true
  chain : Region.chainB .any l.toArray n = true
  guard : ∀ (i : Nat) (o : Oper), l[i]? = some o → o.guard = none
  dst : ∀ (i : Nat) (o : Oper), i < n → l[i]? = some o → ∃ d, o.dst = some d
  dist : ∀ (i j : Nat) (oi oj : Oper) (d : Nat), i < n → j < n → l[i]? = some oi → l[j]? = some oj → oi.dst = some d → oj.dst = some d → i = j
  back : ∀ (i : Nat) (o : Oper), l[i]? = some o → ∀ e ∈ o.after, Region.binds .any e = true → e.on < i
  reads : ∀ (i : Nat) (o : Oper), l[i]? = some o → ∀ (j : Nat) (oj : Oper) (d : Nat), j < n → l[j]? = some oj → oj.dst = some d → d ∈ o.looksAt l.toArray → ∃ e ∈ o.after, Region.binds .any e = true ∧ e.on = j

theorem dag_of {l : List Oper} {n : Nat} (h : dagB l n = true) : Dag l n := by
  simp only [dagB, Bool.and_eq_true, decide_eq_true_eq] at h
  obtain ⟨⟨⟨⟨⟨⟨⟨h1, h2⟩, h3⟩, h4⟩, h5⟩, h6⟩, h7⟩, h8⟩ := h
  refine ⟨h1, h2, h3, h4, ?_, ?_, ?_, ?_, ?_⟩
  · intro i o ho
    have := List.all_eq_true.1 h5 o (List.mem_of_getElem? ho)
    simpa using this
  · intro i o hi ho
    have := List.all_eq_true.1 h6 o (List.mem_of_getElem? (i := i) (by rw [List.getElem?_take, if_pos hi]; exact ho))
    exact Option.isSome_iff_exists.1 this
  · intro i j oi oj d hi hj hoi hoj hdi hdj
    have := List.all_eq_true.1 (List.all_eq_true.1 h7 i (List.mem_range.2 hi)) j (List.mem_range.2 hj)
    simp only [Bool.or_eq_true, decide_eq_true_eq] at this
    rcases this with h | h
    · exact h
    · simp [hoi, hoj, hdi, hdj] at h
  · intro i o ho e he hb
    have hi : i < n + 1 := by have := (List.getElem?_eq_some_iff.1 ho).1; omega
    have := List.all_eq_true.1 h8 i (List.mem_range.2 hi)
    rw [ho] at this
    simp only [Bool.and_eq_true, Array.all_eq_true_iff_forall_mem] at this
    have := this.1 e he
    simpa [hb] using this
  · intro i o ho j oj d hj hoj hd hm
    have hi : i < n + 1 := by have := (List.getElem?_eq_some_iff.1 ho).1; omega
    have := List.all_eq_true.1 h8 i (List.mem_range.2 hi)
    rw [ho] at this
    simp only [Bool.and_eq_true] at this
    have := List.all_eq_true.1 this.2 j (List.mem_range.2 hj)
    rw [hoj] at this
    simp only [Option.bind_some, hd, Bool.or_eq_true] at this
    rcases this with h | h
    · simp at h
      exact absurd hm h
    · obtain ⟨e, he, h⟩ := Array.any_eq_true'.1 h
      simp only [Bool.and_eq_true, beq_iff_eq] at h
      exact ⟨e, he, h.1, h.2⟩

theorem Laid.unique {l : List Oper} {vals : List Value} {n : Nat} {a b full : Act} {f g : Nat → Bool} (hv : vals.length = n) (hb : Laid l vals n a f b) (hF : Laid l vals n a g full) (k : Nat)
    (h : ∀ j o, j < n → l[j]? = some o → o.dst = some k → f j = true ∧ g j = true) : b.tmps[k]? = full.tmps[k]? := by
  by_cases hk : ∃ j o, j < n ∧ l[j]? = some o ∧ o.dst = some k
  · obtain ⟨j, o, hj, ho, hd⟩ := hk
    have hjv : vals[j]? = some (vals[j]'(by omega)) := List.getElem?_eq_getElem _
    rw [hb.new j o _ k hj ho (h j o hj ho hd).1 hjv hd, hF.new j o _ k hj ho (h j o hj ho hd).2 hjv hd]
  · rw [hb.old k fun j o hj ho _ hd => hk ⟨j, o, hj, ho, hd⟩, hF.old k fun j o hj ho _ hd => hk ⟨j, o, hj, ho, hd⟩]

theorem Laid.put {l : List Oper} {vals : List Value} {n : Nat} {a b : Act} {f : Nat → Bool} (D : Dag l n) (hb : Laid l vals n a f b) {i : Nat} {o : Oper} {v : Value} (hi : i < n) (ho : l[i]? = some o) (hv : vals[i]? = some v)
    (hlt : ∀ d, o.dst = some d → d < a.tmps.size) : Laid l vals n a (fun j => f j || j == i) (b.put o.dst v) := by
  obtain ⟨d, hd⟩ := D.dst i o hi ho
  have hdl := hlt d hd
  rw [hd]
  have hps : ∀ k, (b.put (some d) v).tmps[k]? = if k = d then some v else b.tmps[k]? := fun k => put_slot (by rw [hb.size]; exact hdl)
  refine ⟨hb.defers, by rw [put_size]; exact hb.size, fun k hk => ?_, fun j oj vj dj hj hoj hfj hvj hdj => ?_⟩
  · have hkd : k ≠ d := fun e => hk i o hi ho (by simp) (by rw [e]; exact hd)
    rw [hps, if_neg hkd]
    exact hb.old k fun j oj hj hoj hf => hk j oj hj hoj (by simp [hf])
  · rw [hps]
    by_cases c : dj = d
    · subst c
      have : j = i := D.dist j i oj o dj hj hi hoj ho hdj hd
      subst this
      rw [if_pos rfl, ← hv, hvj]
    · rw [if_neg c]
      have hji : j ≠ i := by
        intro e
        subst e
        rw [ho] at hoj
        obtain rfl := Option.some.inj hoj
        rw [hd] at hdj
        exact c (Option.some.inj hdj).symm
      exact hb.new j oj vj dj hj hoj (by simpa [hji] using hfj) hvj hdj
theorem looks_of {o : Oper} {ops : Array Oper} {t : Nat} (h : Operand.tmp t ∈ o.op.operands) : t ∈ o.looksAt ops := by
  unfold Oper.looksAt
  refine List.mem_append_left _ (List.mem_filterMap.2 ⟨.tmp t, by simpa using h, rfl⟩)
theorem wp_region_dag {id : Nat} {l : List Oper} {a full : Act} {w : World} {Q : Exit → Act → World → Prop} (n : Nat) (vals : List Value) (ia : Nat) (V : Bool → World → Prop)
    (hm : Try.prog.follows .mixedOrders = true) (hD : dagB l n = true) (hv : vals.length = n)
    (hlt : ∀ j o d, j < n → l[j]? = some o → o.dst = some d → d < a.tmps.size)
    (hF : Laid l vals n a (fun _ => true) full) (h0 : V false w.drew)
    (hstep : ∀ i o v, i < n → l[i]? = some o → vals[i]? = some v → ∀ s w', V s w' → (i = ia → s = false) → ∀ (b : Act) (K : Act → World → Prop), (∀ w'', V (s || ia == i) w'' → K (b.put o.dst v) w'') → o.upon Try.prog b K Q ((execOp full.eval o).run Try.prog w'))
    (hlast : ∀ o s w', l[n]? = some o → V s w' → (ia < n → s = true) → wpList Try.prog l.toArray Q [o] full w') : (Code.region id l.toArray true).wp Try.prog Q a w := by
  have D := dag_of hD
  have hsz : l.toArray.size = n + 1 := by rw [List.size_toArray]; exact D.len
  have hget : ∀ i, l.toArray[i]? = l[i]? := fun i => List.getElem?_toArray ..
  refine wp_region_inv hm (fun listed b w' => (HeadInv .any l.toArray n listed ∧ Laid l vals n a (fun j => listed.getD j false) b ∧ V (listed.getD ia false) w') ∨ ((∀ i, i < n + 1 → listed.getD i true = true) ∧ Q .normal b w')) ?_ ?_ ?_
  · left
    refine ⟨⟨by simp, fun j oj _ hl => (by rw [getD_replicate_false] at hl; cases hl), fun t _ ht => getD_in (by simpa using ht) (getD_replicate_false _ _)⟩, ⟨rfl, rfl, fun _ _ => rfl, ?_⟩, ?_⟩
    · intro j o v d _ _ h
      rw [getD_replicate_false] at h; cases h
    · rw [getD_replicate_false]; exact h0
  · rintro listed b w' (⟨hi, _, _⟩ | ⟨_, h⟩) hr
    · have := all_listed hi.size (fun i o ho => D.back i o (by rw [← hget]; exact ho)) hr n (by omega)
      have h2 := getD_both (hi.tail n (Nat.le_refl _) (by omega))
      rw [this] at h2; cases h2
    · exact h
  · rintro listed b w' i (⟨hi, hb, hV⟩ | ⟨hall, _⟩) hr
    · obtain ⟨hun, o, ho, hdeps⟩ := mem_ready.1 hr
      have ho' : l[i]? = some o := by rw [← hget]; exact ho
      have hil : i < n + 1 := by have := (List.getElem?_eq_some_iff.1 ho').1; have := D.len; omega
      have hgn := D.guard i o ho'
      have hwant : Region.wanted o (yielded l.toArray b.tmps) = true := by simp [Region.wanted, hgn]
      have hev : execOp b.eval o = execOp full.eval o := by
        refine execOp_congr o (fun cs bb => Region.noSelect_spec D.sel i o cs bb ho) fun x hx => ?_
        cases x with
        | tmp t =>
          show b.tmps.getD t undef = full.tmps.getD t undef
          have : b.tmps[t]? = full.tmps[t]? := hb.unique hv hF t fun j oj hj hoj hd => ⟨by
            obtain ⟨e, he, h1, h2⟩ := D.reads i o ho' j oj t hj hoj hd (looks_of hx)
            have := hdeps e he h1
            rwa [h2] at this, rfl⟩
          rw [Array.getD_eq_getD_getElem?, Array.getD_eq_getD_getElem?, this]
        | _ => rfl
      rcases Nat.lt_or_ge i n with hin | hin
      · have hvi : vals[i]? = some (vals[i]'(by omega)) := List.getElem?_eq_getElem _
        have hK : ∀ w'', V (listed.getD ia false || ia == i) w'' → ((HeadInv .any l.toArray n (listed.setIfInBounds i true) ∧ Laid l vals n a (fun j => (listed.setIfInBounds i true).getD j false) (b.put o.dst (vals[i]'(by omega))) ∧ V ((listed.setIfInBounds i true).getD ia false) w'') ∨ ((∀ k, k < n + 1 → (listed.setIfInBounds i true).getD k true = true) ∧ Q .normal (b.put o.dst (vals[i]'(by omega))) w'')) := by
          intro w'' hV''
          left
          have hset : ∀ k, (listed.setIfInBounds i true).getD k false = (listed.getD k false || k == i) := by
            intro k
            rw [listed_set hun]
            by_cases c : k = i
            · simp [c]
            · simp [c]
          refine ⟨hi.set hr hin, ?_, by rw [hset]; exact hV''⟩
          have := hb.put D hin ho' hvi (fun d hd => hlt i o d hin ho' hd)
          simp only [hset]
          exact this
        unfold wpOp
        rw [ho]
        simp only [hwant, if_true]
        left
        unfold Oper.wp
        rw [hev]
        exact hstep i o _ hin ho' hvi _ w' hV (fun e => e ▸ getD_both hun) b _ hK
      · have hin' : i = n := by omega
        subst hin'
        have hdone : ∀ j, j < i → listed.getD j false = true := by
          intro j hj
          cases hh : listed.getD j false with
          | true => rfl
          | false => exact absurd hr (tail_waits D.sink D.chain (by omega) hi _ j rfl hj (getD_in (by rw [hi.size]; omega) hh) i (Nat.le_refl _))
        have hbf : b = full := by
          refine act_ext (hb.defers.trans hF.defers.symm) fun k => hb.unique hv hF k fun j _ hj _ _ => ⟨hdone j hj, rfl⟩
        subst hbf
        have hl := hlast o _ w' ho' hV (fun h => hdone ia h)
        have hK : ∀ b' w'', Q .normal b' w'' → ((HeadInv .any l.toArray i (listed.setIfInBounds i true) ∧ Laid l vals i a (fun j => (listed.setIfInBounds i true).getD j false) b' ∧ V ((listed.setIfInBounds i true).getD ia false) w'') ∨ ((∀ k, k < i + 1 → (listed.setIfInBounds i true).getD k true = true) ∧ Q .normal b' w'')) := by
          intro b' w'' hq
          right
          refine ⟨fun k hk => ?_, hq⟩
          have hsz' : listed.size = i + 1 := by rw [hi.size]; exact hsz
          by_cases c : k = i
          · subst c
            rw [Array.getD_eq_getD_getElem?, Array.getElem?_setIfInBounds_self_of_lt (by omega)]; rfl
          · rw [Array.getD_eq_getD_getElem?, Array.getElem?_setIfInBounds_ne (by omega)]
            have := hdone k (by omega)
            rw [Array.getD_eq_getD_getElem?, Array.getElem?_eq_getElem (by omega)] at this
            rw [Array.getElem?_eq_getElem (by omega)]
            exact this
        unfold wpOp
        rw [ho]
        simp only [hwant, if_true]
        have : wpList Try.prog l.toArray Q [o] b w' = (if Region.wanted o (yielded l.toArray b.tmps) then o.wp Try.prog b w' (fun a w => Q .normal a w) Q ∨ (o.asks Try.prog b w' ∧ LetsOut Q) else Q .normal (b.put o.dst undef) w') := rfl
        rw [this] at hl
        simp only [hwant, if_true] at hl
        rcases hl with hl | hl
        · exact .inl (Oper.wp_mono hK hl)
        · exact .inr hl
    · have := hall i (by have := (ready_mem hr).1; omega)
      rw [(mem_ready.1 hr).1] at this
      cases this
end Go.Proofs.Qxb6001692a
