import Derived.Test.Qxb6001692aNx
import Derived.Laws.OwnMore
namespace Go.Proofs.Qxb6001692a
open Go.ChangeShapes Go.WideShapes Go.ChangeAt Go.RowKit
set_option linter.unusedVariables false

/-! ### ZZNextNodes -/
theorem build64 (a b : Option Addr) (n m c d : Nat) (w : World) : (Instr.build 64 #[(1, .slice a n c), (2, .slice b m d)]).run Try.prog w = .ok (.agg #[.slice none 0 0, .slice a n c, .slice b m d]) w := by kernel_rfl
set_option maxRecDepth 100000 in
theorem zzNextNodes_any (a b : Option Addr) (ps qs : List Peer) (c d : Nat) (w : World) (hp : SlP w w.heap.size a ps) (hq : SlP w w.heap.size b qs) (hc : ps.length ≤ c) (hd : qs.length ≤ d) (hm : d ≤ maxLen) (hlen : ps.length + qs.length ≤ 8192) :
    Calls Try.prog 19 #[.slice a ps.length c, .slice b qs.length d] w fun e w' => ∃ v, e = .returned v ∧ Below w.heap.size w w' ∧ w'.ownsRow w.heap.size 39 21 v (ps.length + qs.length) (pcs (ps ++ qs.reverse)) := by
  go_enter Try.func19, Try.ntmps19
  go_wp2_with (first
    | (refine wpl_val rfl _ (run_build rfl ?_ (build64 a b ps.length qs.length c d _)) ?_; (focus (simp [Act.eval]; done)); simp only [Act.put, List.setIfInBounds_toArray, List.set_cons_zero, List.set_cons_succ])
    | (go_at_call 27; refine (nextNodes_any _ a b ps qs c d _ hp hq hc hd hm hlen).mono ?_; rintro e w' ⟨v, rfl, hb, hown⟩))
  go_ret
  exact ⟨v, rfl, hb, hown⟩

/-! ### Rows that are made -/
theorem madePeers (n : Nat) : (madeCells (Value.agg (pc (ByteArray.empty, zeros)).toArray).cells (n * 21)).toList = pcs (List.replicate n (ByteArray.empty, zeros)) := by
  induction n with
  | zero => simp [madeCells, pcs]
  | succ n ih =>
    have h1 : (madeCells (Value.agg (pc (ByteArray.empty, zeros)).toArray).cells ((n + 1) * 21)).toList = (madeCells (Value.agg (pc (ByteArray.empty, zeros)).toArray).cells (n * 21)).toList ++ pc (ByteArray.empty, zeros) := by
      unfold madeCells
      rw [show (n + 1) * 21 = n * 21 + 21 by omega]
      simp only [Array.toList_map, Array.toList_range, List.range_add, List.map_append, List.map_map]
      congr 1
      have h2 : ((fun x => (Value.agg (pc (ByteArray.empty, zeros)).toArray).cells[x % (Value.agg (pc (ByteArray.empty, zeros)).toArray).cells.size]!) ∘ fun x => n * 21 + x) = fun x => (Value.agg (pc (ByteArray.empty, zeros)).toArray).cells[x % 21]! := by
        funext x
        show (Value.agg (pc (ByteArray.empty, zeros)).toArray).cells[(n * 21 + x) % 21]! = _
        rw [show (n * 21 + x) % 21 = x % 21 by omega]
      rw [h2]
      rfl
    rw [h1, ih, List.replicate_succ', pcs_append]
    simp [pcs]
/-- A made row's block. -/
theorem own_blk {w : World} {base : Nat} {e : TypeId} {size : Nat} {g n : Nat} {xs : List Value} (h : w.ownsRow base e size (.slice (some ⟨g, 0, none⟩) n n) n xs) : Blk w g xs := by
  obtain ⟨h0, h⟩ := h
  rcases h with ⟨h, _⟩ | ⟨g', cap, cur, h1, h2, h3, h4, h5, h6, h7⟩
  · cases h
  · simp only [Value.slice.injEq, Option.some.injEq, Addr.mk.injEq, and_true, true_and] at h1
    obtain ⟨rfl, rfl⟩ := h1
    rw [List.take_of_length_le (by simp [h6])] at h7
    subst h7
    exact ⟨e, h3⟩
theorem own_SlP {w : World} {base : Nat} {v : Value} {ps : List Peer} (h : w.ownsRow base 39 21 v ps.length (pcs ps)) (hi : ∀ x ∈ ps, Id20 x.2) : ∃ a c, v = .slice a ps.length c ∧ ps.length ≤ c ∧ c ≤ maxLen ∧ SlP w w.heap.size a ps := by
  obtain ⟨h0, h⟩ := h
  rcases h with ⟨h, hn⟩ | ⟨g, cap, cur, h1, h2, h3, h4, h5, h6, h7⟩
  · exact ⟨none, 0, by rw [h, hn], by omega, by simp [maxLen], hi, .inl (List.length_eq_zero_iff.1 hn)⟩
  · refine ⟨_, cap, h1, h4, h5, hi, .inr ⟨g, 0, rfl, ?_, ?_⟩⟩
    · rcases Nat.lt_or_ge g w.heap.size with c | c
      · exact c
      · rw [Array.getElem?_eq_none c] at h3; cases h3
    · intro j v hv
      rw [← h7] at hv
      have hj : j < ps.length * 21 := by have := (List.getElem?_eq_some_iff.1 hv).1; simp at this; omega
      rw [List.getElem?_take, if_pos hj] at hv
      rw [cell_of_row w g _ _ 39 _ h3, Nat.zero_add]
      simpa using hv
theorem info9 : ∃ i, Try.prog.info? 9 = some i ∧ i.zero = some (.string ByteArray.empty) ∧ i.size = 1 ∧ i.bytes = 16 := by
  have h : (Try.prog.info? 9).map (fun i => (i.zero, i.size, i.bytes)) = some (some (.string ByteArray.empty), 1, 16) := by kernel_rfl
  cases hq : Try.prog.info? 9 with
  | none => rw [hq] at h; cases h
  | some i =>
    rw [hq] at h
    simp only [Option.map_some, Option.some.injEq, Prod.mk.injEq] at h
    exact ⟨i, rfl, h.1, h.2.1, h.2.2⟩
theorem wpl_make9 {ops : Array Oper} {rest : List Oper} {o : Oper} {a : Act} {w : World} {Q : Exit → Act → World → Prop} (hgd : o.guard = none) {x y : Operand} (ho : o.op = .makeSlice 33 x y) (n : Nat) (hx : a.eval x = .int .i64 (n : Int)) (hy : a.eval y = .int .i64 (n : Int)) (hn : n ≤ 8192)
    (h : ∀ (g : Nat) (w' : World), Blk w' g (List.replicate n (.string ByteArray.empty)) → Below w.heap.size w w' → w.heap.size ≤ g → wpList Try.prog ops Q rest (a.put o.dst (.slice (some ⟨g, 0, none⟩) n n)) w') : wpList Try.prog ops Q (o :: rest) a w := by
  obtain ⟨i, hi, hz, hs, hb⟩ := info9
  refine wpList_make_full w hgd x y 33 ho w.heap.size 9 i _ 1 Try.underlying33 hi hz hs .i64 .i64 n n n hx hy rfl rfl (by rw [hb]; omega) (by simp only [maxLen]; omega) (Nat.le_refl _) ?_
  intro w' hown hgr
  refine h _ w' ?_ (Below.grown (Below.refl _ _) hgr (Nat.le_refl _) (fun k hk => by cases hk)) (Nat.le_refl _)
  have := own_blk hown
  rw [Nat.mul_one] at this
  exact (toList_madeCells_one _ n) ▸ this
theorem wpl_make39 {ops : Array Oper} {rest : List Oper} {o : Oper} {a : Act} {w : World} {Q : Exit → Act → World → Prop} (hgd : o.guard = none) {x y : Operand} (ho : o.op = .makeSlice 37 x y) (n : Nat) (hx : a.eval x = .int .i64 (n : Int)) (hy : a.eval y = .int .i64 (n : Int)) (hn : n ≤ 8192)
    (h : ∀ (g : Nat) (w' : World), Blk w' g (pcs (List.replicate n (ByteArray.empty, zeros))) → Below w.heap.size w w' → w.heap.size ≤ g → wpList Try.prog ops Q rest (a.put o.dst (.slice (some ⟨g, 0, none⟩) n n)) w') : wpList Try.prog ops Q (o :: rest) a w := by
  obtain ⟨i, hi, hz, hs, hb⟩ := info39
  refine wpList_make_full w hgd x y 37 ho w.heap.size 39 i _ 21 Try.underlying37 hi hz hs .i64 .i64 n n n hx hy rfl rfl (by rw [hb]; omega) (by simp only [maxLen]; omega) (Nat.le_refl _) ?_
  intro w' hown hgr
  refine h _ w' ?_ (Below.grown (Below.refl _ _) hgr (Nat.le_refl _) (fun k hk => by cases hk)) (Nat.le_refl _)
  have := own_blk hown
  rw [madePeers] at this
  exact this
/-- A string goes into a row. -/
theorem wpl_store9 {ops : Array Oper} {rest : List Oper} {o : Oper} {a : Act} {w : World} {Q : Exit → Act → World → Prop} (hgd : o.guard = none) {x y : Operand} (ho : o.op = .store 9 x y) {g k : Nat} (hx : a.eval x = .pointer (some ⟨g, k, none⟩)) {s : ByteArray} (hy : a.eval y = .string s)
    {l : List Value} (hg : Blk w g l) (hk : k < l.length)
    (h : ∀ w' : World, Blk w' g (l.set k (.string s)) → (∀ B, B ≤ g → Below B w w') → (∀ j, j ≠ g → w'.heap[j]? = w.heap[j]?) → wpList Try.prog ops Q rest (a.put o.dst undef) w') : wpList Try.prog ops Q (o :: rest) a w :=
  wpList_plain hgd fun K hK => by
    have hh := hK _ _ (h (w.setCell ⟨g, k, none⟩ (.string s)) (hg.setCell k _) (fun B hB => (Below.refl B w).setCell hB _) (fun j hj => heap_setCell_other w ⟨g, k, none⟩ j _ hj))
    have hc : w.cell? ⟨g, k, none⟩ = some (l[k]'hk) := hg.cellAt k (List.getElem?_eq_getElem hk)
    have hf : w.frozen? ⟨g, k, none⟩ = false := by
      obtain ⟨t, hg⟩ := hg
      simp [World.frozen?, hg]
    have hs : (storeVar 9 ⟨g, k, none⟩ (.string s)).run Try.prog w = .ok () (w.setCell ⟨g, k, none⟩ (.string s)) := by
      simp [storeVar, run_size size9, Value.cells, storeCells, Addr.add, run_store_string, stored, hc, hf]
    unfold Oper.wp execOp
    simp only [ho]
    rw [hx, hy]
    simp only [Instr.storeAt, Instr.sureAddr, Sem.run_bind, Sem.run_pure, Result.andThen_ok, hs]
    exact hh
end Go.Proofs.Qxb6001692a
