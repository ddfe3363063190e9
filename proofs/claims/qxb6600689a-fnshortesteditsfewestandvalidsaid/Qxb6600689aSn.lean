import Derived.Test.Qxb6600689aSm
namespace Go.Proofs.Qxb6600689a
open Go.ChangeShapes Go.WideShapes Go.ChangeAt Go.RowKit
set_option linter.unusedVariables false

theorem Hid.mk' {p : Prop} (h : p) : Hid p := h
/-- v[lo:hi] -/
theorem run_sliceLH {a : Act} {o : Oper} {w : World} {x y z : Operand} (ho : o.op = .slice 22 x (some y) (some z) none) {g n cap lo hi : Nat} {l h : Int} (hx : a.eval x = .slice (some ⟨g, 0, none⟩) n cap) (hy : a.eval y = .int .i64 l) (hz : a.eval z = .int .i64 h)
    (hl : l = (lo : Int)) (hh : h = (hi : Int)) (h1 : lo ≤ hi) (h2 : hi ≤ cap) (h3 : lo < cap) :
    (execOp a.eval o).run Try.prog w = .ok (.value (.slice (some ⟨g, lo, none⟩) (hi - lo) (cap - lo))) w := by
  subst hl hh
  unfold execOp
  simp only [ho, Option.map_some, Option.map_none]
  rw [hx, hy, hz]
  have hb1 := run_sliceBound (P := Try.prog) w .i64 (hi : Int) cap .sliceAcap (by omega) (by omega)
  have hb2 := run_sliceBound (P := Try.prog) w .i64 (lo : Int) hi .sliceB (by omega) (by omega)
  have : (Instr.slice 22 (.slice (some ⟨g, 0, none⟩) n cap) (some (.int .i64 (lo : Int))) (some (.int .i64 (hi : Int))) none).run Try.prog w = .ok (.slice (some ⟨g, lo, none⟩) (hi - lo) (cap - lo)) w := by
    unfold Instr.slice
    have hne : ¬ cap = lo := by omega
    simp [run_underlying Try.underlying22, Instr.sliceBounds, hb1, hb2, run_size size3, hne, Addr.add]
    omega
  simp [Instr.sliceAt, run_underlying Try.underlying22, this]
/-- append([]int(nil), s...) -/
theorem wpl_copy {ops : Array Oper} {rest : List Oper} {o : Oper} {a : Act} {w : World} {Q : Exit → Act → World → Prop} (hgd : o.guard = none) (x : Operand) (ho : o.op = .call { callee := .builtin .append, args := #[.const (.slice none 0 0), x], argTypes := #[22, 22] })
    {g lo L c : Nat} (z : List Int) (hx : a.eval x = .slice (some ⟨g, lo, none⟩) L c) (hL : z.length = L) (h0 : 0 < z.length) (hz : z.length ≤ 1048576) (hc : ∀ i, i < z.length → w.cell? ⟨g, lo + i, none⟩ = some (.int .i64 (z.getD i 0)))
    (h : ∀ (g' c' : Nat) (w' : World), Row3 w' g' z → Below w.heap.size w w' → w.heap.size ≤ g' → wpList Try.prog ops Q rest (a.put o.dst (.slice (some ⟨g', 0, none⟩) L c')) w') : wpList Try.prog ops Q (o :: rest) a w := by
  subst hL
  obtain ⟨i, hi, hz', hs, hb⟩ := info3
  refine wpList_append_own w hgd (.const (.slice none 0 0)) x 22 ho w.heap.size 3 i (.int .i64 0) 1 8 Try.underlying22 hi hz' hs hb rfl (by omega) (.slice none 0 0) 0 [] rfl (World.ownsRow_nil _ _ _ _) ⟨g, lo, none⟩ z.length c (iv z) hx (by rw [iv_length, Nat.mul_one]) ?_ ?_ (by simp only [maxLen]; omega) (by omega) (Nat.le_refl _) ?_
  · intro j u hu
    have hj : j < z.length := by have := (List.getElem?_eq_some_iff.1 hu).1; rwa [iv_length] at this
    rw [iv_get hj] at hu
    rw [← hu, show (⟨g, lo, none⟩ : Addr).add j = ⟨g, lo + j, none⟩ by simp [Addr.add]]
    exact hc j hj
  · exact ints_oneCell _ _
  · intro v' w' hown hgr hnil
    obtain ⟨h1, h2⟩ := hown
    rcases h2 with ⟨h2, h3⟩ | ⟨g', cap, cur, e1, e2, e3, e4, e5, e6, e7⟩
    · omega
    · rw [Nat.zero_add] at e1
      rw [e1]
      refine h g' cap w' ⟨⟨cur, e3⟩, fun i hi => ?_⟩ (Below.grown (Below.refl _ _) hgr (Nat.le_refl _) (fun k hk => by cases hk)) e2
      rw [cell_of_row w' g' _ _ 3 _ e3, ← Array.getElem?_toList]
      have e8 : cur.toList[i]? = ((cur.toList).take ((0 + z.length) * 1))[i]? := by rw [List.getElem?_take, if_pos (by omega)]
      rw [e8, e7, List.nil_append, iv_get hi]
theorem fill22 (p : Option Addr) (n c : Nat) : Instr.fill (fun i => some (i * 1, 1)) ((Array.range (1 * 1)).map ((Value.slice none 0 0).cells[· % (Value.slice none 0 0).cells.size]!)) [(0, .slice p n c)] = some #[.slice p n c] := by kernel_rfl
/-- rounds = append(rounds, s) -/
theorem wpl_pushR {ops : Array Oper} {rest : List Oper} {o o' : Oper} {a : Act} {w : World} {Q : Exit → Act → World → Prop} (hgd : o.guard = none) (hgd' : o'.guard = none) (y : Operand) (ho : o.op = .buildSlice 36 1 #[(0, y)]) (s x : Operand)
    (ho' : o'.op = .call { callee := .builtin .append, args := #[s, x], argTypes := #[36, 36] }) {gv g c : Nat} {v : Value} {rs : List (List Int)} {cs : List Value} (z : List Int) {L : Nat} (hy : a.eval y = .slice (some ⟨g, 0, none⟩) L c) (hL : z.length = L) (hs : (a.put o.dst (.slice (some ⟨w.heap.size, 0, none⟩) 1 1)).eval s = v)
    (hx : (a.put o.dst (.slice (some ⟨w.heap.size, 0, none⟩) 1 1)).eval x = .slice (some ⟨w.heap.size, 0, none⟩) 1 1) (rr : RR w gv v rs cs) (hg : gv < g) (hr : Row3 w g z) (hn : rs.length ≤ 1048576) (hgv : gv < w.heap.size)
    (h : ∀ (u v' : Value) (w' : World) (cs' : List Value), RR w' gv v' (rs ++ [z]) cs' → (∀ B, B ≤ gv + 1 → Below B w w') → wpList Try.prog ops Q rest ((a.put o.dst u).put o'.dst v') w') : wpList Try.prog ops Q (o :: o' :: rest) a w := by
  subst hL
  obtain ⟨i, hi, hz, hsz, hb⟩ := info22
  have hlt := hr.lt
  refine wpList_buildSlice hgd 36 22 1 #[(0, y)] ho #[.slice (some ⟨g, 0, none⟩) z.length c] i _ Try.underlying36 hi hz (by rw [hsz]; omega) (by rw [hsz]; omega) ?_ ?_
  · rw [hsz]; simp only [List.map_toArray, List.map_cons, List.map_nil, hy]; exact fill22 _ _ _
  · obtain ⟨w1, hw1⟩ : ∃ w1, w1 = w.alloc (.cells #[.slice (some ⟨g, 0, none⟩) z.length c] 22) := ⟨_, rfl⟩
    have hsize : w.heap.size ≤ w1.heap.size := by rw [hw1]; exact ((Below.refl 0 w).alloc (by omega) _).size
    have hblk : Blk w1 w.heap.size [.slice (some ⟨g, 0, none⟩) z.length c] := by rw [hw1]; exact ⟨22, heap_alloc_last w _⟩
    have hk1 : ∀ j, j < w.heap.size → w1.heap[j]? = w.heap[j]? := fun j hj => by rw [hw1]; exact Below.heap_alloc w _ j hj
    have hb1 : ∀ B, B ≤ gv + 1 → Below B w w1 := fun B hB => by rw [hw1]; exact (Below.refl B w).alloc (by omega) _
    rw [← hw1]
    have rr1 : RR w1 gv v rs cs := rr.kept fun k _ hk => hk1 k hk
    have hr1 : Row3 w1 g z := hr.of_block (hk1 g hlt)
    refine wpList_append_own w1 hgd' s x 36 ho' (gv + 1) 22 i _ 1 24 Try.underlying36 hi hz hsz hb rfl (by omega) v rs.length cs hs rr1.own ⟨w.heap.size, 0, none⟩ 1 1 [.slice (some ⟨g, 0, none⟩) z.length c] hx rfl ?_ ?_ (by simp only [maxLen]; omega) (by omega) (by omega) ?_
    · intro j u hj
      match j, hj with
      | 0, hj => simp at hj; subst hj; exact hblk.cellAt 0 rfl
    · intro u hu; simp at hu; subst hu; rfl
    · intro v' w' hown hgr _
      have ne : ∀ (k : Nat) (z' : List Int), Row3 w1 k z' → w'.heap[k]? = w1.heap[k]? := by
        intro k z' hk
        refine hgr.block k hk.lt fun e => ?_
        obtain ⟨⟨cur, hc⟩, _⟩ := hk
        rcases rr1.own.2 with ⟨h1, _⟩ | ⟨g', cap, cur', h1, h2, h3, _⟩
        · rw [h1] at e; simp [Value.ownBlock] at e
        · rw [h1] at e
          simp only [Value.ownBlock, Option.some.injEq] at e
          subst e
          rw [h3] at hc
          simp at hc
      refine h _ v' w' (cs ++ [.slice (some ⟨g, 0, none⟩) z.length c]) ⟨?_, fun r hr' => ?_⟩ ?_
      · rw [List.length_append]; exact hown
      · rw [List.length_append, List.length_singleton] at hr'
        have hcl : cs.length = rs.length := by have := rr.own.1; omega
        by_cases cc : r < rs.length
        · obtain ⟨g2, c2, e2, hg2, r2⟩ := rr1.rows r cc
          refine ⟨g2, c2, ?_, hg2, ?_⟩
          · rw [List.getElem?_append_left (by omega), e2, List.getD_eq_getElem?_getD, List.getD_eq_getElem?_getD, List.getElem?_append_left cc]
          · rw [show (rs ++ [z]).getD r [] = rs.getD r [] by rw [List.getD_eq_getElem?_getD, List.getD_eq_getElem?_getD, List.getElem?_append_left cc]]
            exact r2.of_block (ne g2 _ r2)
        · obtain rfl : r = rs.length := by omega
          have e : (rs ++ [z]).getD rs.length [] = z := by rw [List.getD_eq_getElem?_getD, List.getElem?_append_right (Nat.le_refl _)]; simp
          rw [e]
          refine ⟨g, c, ?_, hg, hr1.of_block (ne g _ hr1)⟩
          rw [← hcl, List.getElem?_append_right (Nat.le_refl _)]; simp
      · intro B hB
        refine Below.grown (hb1 B hB) hgr (by omega) fun k hk => ?_
        have := (World.ownsRow.lt rr1.own k hk).1
        omega
end Go.Proofs.Qxb6600689a
