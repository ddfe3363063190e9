import Derived.Test.Qxb6001692aTn
import Derived.Great.BuildSlice
namespace Go.Proofs.Qxb6001692a
open Go.ChangeShapes Go.WideShapes Go.ChangeAt Go.RowKit
set_option linter.unusedVariables false

theorem info39 : ∃ i, Try.prog.info? 39 = some i ∧ i.zero = some (.agg (pc (ByteArray.empty, zeros)).toArray) ∧ i.size = 21 ∧ i.bytes = 40 := by
  have h : (Try.prog.info? 39).map (fun i => (i.zero, i.size, i.bytes)) = some (some (.agg (pc (ByteArray.empty, zeros)).toArray), 21, 40) := by kernel_rfl
  cases hq : Try.prog.info? 39 with
  | none => rw [hq] at h; cases h
  | some i =>
    rw [hq] at h
    simp only [Option.map_some, Option.some.injEq, Prod.mk.injEq] at h
    exact ⟨i, rfl, h.1, h.2.1, h.2.2⟩
theorem ownsRow_kept {w w' : World} {base : Nat} {e : TypeId} {size : Nat} {v : Value} {n : Nat} {xs : List Value} (h : w.ownsRow base e size v n xs) (hk : ∀ k, base ≤ k → k < w.heap.size → w'.heap[k]? = w.heap[k]?) : w'.ownsRow base e size v n xs := by
  obtain ⟨h0, h⟩ := h
  refine ⟨h0, ?_⟩
  rcases h with h | ⟨g, cap, cur, h1, h2, h3, h4⟩
  · exact .inl h
  · refine .inr ⟨g, cap, cur, h1, h2, ?_, h4⟩
    rw [hk g h2 ?_, h3]
    rcases Nat.lt_or_ge g w.heap.size with c | c
    · exact c
    · rw [Array.getElem?_eq_none c] at h3; cases h3
theorem ownsRow_mono {w : World} {base base' : Nat} {e : TypeId} {size : Nat} {v : Value} {n : Nat} {xs : List Value} (h : w.ownsRow base e size v n xs) (hb : base' ≤ base) : w.ownsRow base' e size v n xs := by
  obtain ⟨h0, h⟩ := h
  refine ⟨h0, ?_⟩
  rcases h with h | ⟨g, cap, cur, h1, h2, h3⟩
  · exact .inl h
  · exact .inr ⟨g, cap, cur, h1, Nat.le_trans hb h2, h3⟩
theorem fill39 {s : ByteArray} {A : List Int} (hA : A.length = 20) : Instr.fill (fun i => some (i * 21, 21)) ((Array.range (1 * 21)).map ((Value.agg (pc (ByteArray.empty, zeros)).toArray).cells[· % (Value.agg (pc (ByteArray.empty, zeros)).toArray).cells.size]!)) [(0, .agg (pc (s, A)).toArray)] = some (pc (s, A)).toArray := by
  obtain ⟨a0, a1, a2, a3, a4, a5, a6, a7, a8, a9, a10, a11, a12, a13, a14, a15, a16, a17, a18, a19, rfl⟩ := list20 hA
  kernel_rfl
/-- '[]peer{p}' -/
theorem wpl_one39 {ops : Array Oper} {rest : List Oper} {o : Oper} {a : Act} {w : World} {Q : Exit → Act → World → Prop} (hgd : o.guard = none) (x : Operand) (ho : o.op = .buildSlice 37 1 #[(0, x)]) (p : Peer) (hp : p.2.length = 20) (hx : a.eval x = .agg (pc p).toArray)
    (h : ∀ (g : Nat) (w' : World), w'.rangeAt g 0 (pc p) → Below w.heap.size w w' → w.heap.size ≤ g → wpList Try.prog ops Q rest (a.put o.dst (.slice (some ⟨g, 0, none⟩) 1 1)) w') : wpList Try.prog ops Q (o :: rest) a w := by
  obtain ⟨i, hi, hz, hs, hb⟩ := info39
  refine wpList_buildSlice hgd 37 39 1 #[(0, x)] ho (pc p).toArray i _ Try.underlying37 hi hz (by rw [hs]; omega) (by rw [hs]; omega) ?_ ?_
  · rw [hs]; simp only [List.map_toArray, List.map_cons, List.map_nil, hx]; exact fill39 hp
  · exact h w.heap.size _ (Blk.whole ⟨39, heap_alloc_last w _⟩) ((Below.refl _ _).alloc (Nat.le_refl _) _) (Nat.le_refl _)
theorem size64 : (Try.prog.info? 64).map (·.size) = some 3 := by kernel_rfl
theorem run_load64 {a : Act} {o : Oper} {w : World} (x : Operand) (ho : o.op = .load 64 x) (g : Nat) (hx : a.eval x = .pointer (some ⟨g, 0, none⟩)) {u v z : Value} (hg : Blk w g [u, v, z]) :
    (execOp a.eval o).run Try.prog w = .ok (.value (.agg #[u, v, z])) w := by
  unfold execOp
  simp only [ho]
  rw [hx]
  simp only [Sem.run_bind, run_loadAt_mid w g 0 64 [u, v, z] _ hg.whole Try.underlying64 rfl size64, Result.andThen_ok]
  rfl
def lenV : Value → Nat
  | .slice _ n _ => n
  | _ => 0
theorem own_len {w : World} {base : Nat} {e : TypeId} {size : Nat} {v : Value} {n : Nat} {xs : List Value} (h : w.ownsRow base e size v n xs) : lenV v = n := by
  rcases h.2 with ⟨h, h'⟩ | ⟨g, cap, cur, h, _⟩
  · rw [h, h']; rfl
  · rw [h]; rfl
/-- What nextNodes' loop keeps. -/
structure NN (w : World) (gs : Nat) (ow : Value) (b : Option Addr) (d : Nat) (all : List Peer) (v : Value) (wr : World) (tk ps qs : List Peer) (a : Option Addr) (c : Nat) : Prop where
  own : wr.ownsRow (gs + 1) 39 21 v tk.length (pcs tk)
  blk : Blk wr gs [ow, .slice a ps.length c, .slice b qs.length d]
  bel : Below w.heap.size w wr
  sa : SlP wr w.heap.size a ps
  sb : SlP wr w.heap.size b qs
  hc : ps.length ≤ c
  hd : qs.length ≤ d
  eq : tk ++ (ps ++ qs.reverse) = all

set_option maxRecDepth 100000 in
set_option maxHeartbeats 1000000 in
theorem nextNodes_any (ow : Value) (a b : Option Addr) (ps qs : List Peer) (c d : Nat) (w : World) (hp : SlP w w.heap.size a ps) (hq : SlP w w.heap.size b qs) (hc : ps.length ≤ c) (hd : qs.length ≤ d) (hm : d ≤ maxLen) (hlen : ps.length + qs.length ≤ 8192) :
    Calls Try.prog 27 #[.agg #[ow, .slice a ps.length c, .slice b qs.length d]] w fun e w' => ∃ v, e = .returned v ∧ Below w.heap.size w w' ∧ w'.ownsRow w.heap.size 39 21 v (ps.length + qs.length) (pcs (ps ++ qs.reverse)) := by
  obtain ⟨i39, hi39, hz39, hs39, hb39⟩ := info39
  go_enter Try.func27, Try.ntmps27
  go_wp2_with (first
    | (refine wpl_boxL rfl _ rfl [ow, .slice a ps.length c, .slice b qs.length d] rfl ?_; intro gs w1 hs hb hl; simp only [Act.put, List.setIfInBounds_toArray, List.set_cons_zero, List.set_cons_succ]))
  have hlen' : (ps ++ qs.reverse).length ≤ 8192 := by simp; omega
  go_loopw [3] (fun v wr => ∃ tk ps' qs' a' c', NN w gs ow b d (ps ++ qs.reverse) v wr tk ps' qs' a' c')
    (fun v _ => 8192 - lenV v)
  case atStart => exact ⟨[], ps, qs, a, c, World.ownsRow_nil _ _ _ _, hs, hb, hp.below hb, hq.below hb, hc, hd, rfl⟩
  case round =>
    obtain ⟨tk, ps', qs', a', c', own, blk, bel, sa, sb, hc', hd', eq⟩ := hrel
    have hlt := blk.lt
    have htk : tk.length + (ps'.length + qs'.length) ≤ 8192 := by
      have := congrArg List.length eq
      simp only [List.length_append, List.length_reverse] at this hlen'
      omega
    have HE : Hid (tk ++ (ps' ++ qs'.reverse) = ps ++ qs.reverse) := eq
    clear eq hp hq hc hd hlen' hlen hs
    rcases ps' with _ | ⟨p, ps'⟩
    · rcases (by rcases List.eq_nil_or_concat qs' with h | ⟨l, x, h⟩; exact .inl h; exact .inr ⟨l, x, by rw [h]; simp⟩ : qs' = [] ∨ ∃ l x, qs' = l ++ [x]) with rfl | ⟨qs'', q, rfl⟩
      · go_wp2_with (first
          | (refine wpl_val rfl _ (run_load64 _ rfl gs rfl blk) ?_; simp only [Act.put, List.setIfInBounds_toArray, List.set_cons_zero, List.set_cons_succ])
          | (go_at_call 33; refine (hasNext_f ow a' b c' d _).mono ?_; rintro e w' ⟨rfl, hb2⟩))
        go_ret
        have htk := HE.out
        simp only [List.reverse_nil, List.append_nil] at htk
        refine ⟨_, rfl, bel.trans (hb2.mono bel.size), ?_⟩
        have := ownsRow_mono (base' := w.heap.size) (ownsRow_kept own fun k _ hk2 => hb2.block k hk2) (by omega)
        rw [htk] at this
        simpa using this
      · have hpl : q.2.length = 20 := (sb.1 q (by simp)).1
        have hone : ∀ u ∈ pc q, u.oneCell' = true := by simpa [pcs] using pcs_one [q]
        have htk' : tk.length + 1 ≤ 8192 := by simp only [List.length_append, List.length_cons, List.length_nil] at htk; omega
        rw [List.length_append, List.length_cons, List.length_nil] at blk hd'
        go_wp2_with (first
          | (refine wpl_val rfl _ (run_load64 _ rfl gs rfl blk) ?_; simp only [Act.put, List.setIfInBounds_toArray, List.set_cons_zero, List.set_cons_succ])
          | (go_at_call 33; refine (hasNext_t2 ow a' b (qs''.length + 1) (by omega) c' d _).mono ?_; rintro e w' ⟨rfl, hb2⟩; have blk2 := Blk.via hb2 blk)
          | (go_at_call 34; refine (takeNext_2 gs w.heap.size ow a' b q qs'' c' d _ blk2 (by have := bel.size; omega) hd' hm (sb.below (hb2.mono bel.size))).mono ?_; rintro e w3 ⟨rfl, hb3, hk3, blk3⟩; have hlt2 := blk2.lt; have e2 := hb2.size; have e3 := hb3.size; have own3 := ownsRow_kept own fun k hk1 hk2 => (hk3 k (by omega) (by omega)).trans (hb2.block k hk2))
          | (refine wpl_one39 rfl _ rfl q hpl rfl ?_; intro g4 w4 hr4 hb4 hl4; have blk4 := Blk.via hb4 blk3; have own4 := ownsRow_kept own3 fun k _ hk2 => hb4.block k hk2; have hlt4 := blk4.lt; simp only [Act.put, List.setIfInBounds_toArray, List.set_cons_zero, List.set_cons_succ])
          | (refine wpList_append_own _ rfl _ _ 37 rfl (gs + 1) 39 i39 _ 21 40 Try.underlying37 hi39 hz39 hs39 hb39 rfl (by omega) _ tk.length (pcs tk) rfl own4 ⟨g4, 0, none⟩ 1 1 (pc q) rfl (by rw [pc_length hpl]) (fun j u hu => (by rw [Addr.add_mid]; exact hr4 j u hu)) hone (by simp only [maxLen]; omega) (by omega) (by omega) ?_; intro v5 w5 own5 gr5 _; simp only [Act.put, List.setIfInBounds_toArray, List.set_cons_zero, List.set_cons_succ]))
        have e4 := hb4.size
        have hrow : ∀ k, u3.ownBlock = some k → gs + 1 ≤ k := fun k hk => (own4.lt k hk).1
        have blk5 := blk4.of_block (gr5.block gs hlt4 fun h => by have := hrow gs h.symm; omega)
        have bB : Below w.heap.size _ w5 := Below.grown (((hb2.mono bel.size).trans hb3).trans (hb4.mono (by have := bel.size; omega))) gr5 (by have := bel.size; omega) (fun k hk => by have := hrow k hk; omega)
        have hown5 : w5.ownsRow (gs + 1) 39 21 v5 (tk ++ [q]).length (pcs (tk ++ [q])) := by
          rw [List.length_append, pcs_append]
          exact (show pcs [q] = pc q by simp [pcs]) ▸ own5
        go_roundw
        case rel => exact ⟨tk ++ [q], [], qs'', a', c', hown5, blk5, bel.trans bB, (sa).below bB, (sb.init).below bB, hc', (by omega), (by simpa using HE.out)⟩
        case measure => rw [own_len own, own_len hown5, List.length_append]; simp; omega
    · have hpl : p.2.length = 20 := (sa.1 p (by simp)).1
      have hone : ∀ u ∈ pc p, u.oneCell' = true := by simpa [pcs] using pcs_one [p]
      have htk' : tk.length + 1 ≤ 8192 := by simp only [List.length_cons] at htk; omega
      go_wp2_with (first
        | (refine wpl_val rfl _ (run_load64 _ rfl gs rfl blk) ?_; simp only [Act.put, List.setIfInBounds_toArray, List.set_cons_zero, List.set_cons_succ])
        | (go_at_call 33; refine (hasNext_t1 ow a' b (ps'.length + 1) qs'.length (by omega) c' d _).mono ?_; rintro e w' ⟨rfl, hb2⟩; have blk2 := Blk.via hb2 blk)
        | (go_at_call 34; refine (takeNext_1 gs w.heap.size ow a' b p ps' qs' c' d _ blk2 (by have := bel.size; omega) hc' (sa.below (hb2.mono bel.size))).mono ?_; rintro e w3 ⟨rfl, hb3, hk3, blk3⟩; have hlt2 := blk2.lt; have e2 := hb2.size; have e3 := hb3.size; have own3 := ownsRow_kept own fun k hk1 hk2 => (hk3 k (by omega) (by omega)).trans (hb2.block k hk2))
        | (refine wpl_one39 rfl _ rfl p hpl rfl ?_; intro g4 w4 hr4 hb4 hl4; have blk4 := Blk.via hb4 blk3; have own4 := ownsRow_kept own3 fun k _ hk2 => hb4.block k hk2; have hlt4 := blk4.lt; simp only [Act.put, List.setIfInBounds_toArray, List.set_cons_zero, List.set_cons_succ])
        | (refine wpList_append_own _ rfl _ _ 37 rfl (gs + 1) 39 i39 _ 21 40 Try.underlying37 hi39 hz39 hs39 hb39 rfl (by omega) _ tk.length (pcs tk) rfl own4 ⟨g4, 0, none⟩ 1 1 (pc p) rfl (by rw [pc_length hpl]) (fun j u hu => (by rw [Addr.add_mid]; exact hr4 j u hu)) hone (by simp only [maxLen]; omega) (by omega) (by omega) ?_; intro v5 w5 own5 gr5 _; simp only [Act.put, List.setIfInBounds_toArray, List.set_cons_zero, List.set_cons_succ]))
      have e4 := hb4.size
      have hrow : ∀ k, u3.ownBlock = some k → gs + 1 ≤ k := fun k hk => (own4.lt k hk).1
      have blk5 := blk4.of_block (gr5.block gs hlt4 fun h => by have := hrow gs h.symm; omega)
      have bB : Below w.heap.size _ w5 := Below.grown (((hb2.mono bel.size).trans hb3).trans (hb4.mono (by have := bel.size; omega))) gr5 (by have := bel.size; omega) (fun k hk => by have := hrow k hk; omega)
      have hown5 : w5.ownsRow (gs + 1) 39 21 v5 (tk ++ [p]).length (pcs (tk ++ [p])) := by
        rw [List.length_append, pcs_append]
        exact (show pcs [p] = pc p by simp [pcs]) ▸ own5
      go_roundw
      case rel => exact ⟨tk ++ [p], ps', qs', tl c' a', c' - 1, hown5, blk5, bel.trans bB, (sa.tail hc').below bB, (sb).below bB, (by simp only [List.length_cons] at hc'; omega), hd', (by simpa using HE.out)⟩
      case measure => rw [own_len own, own_len hown5, List.length_append]; simp; omega
end Go.Proofs.Qxb6001692a
