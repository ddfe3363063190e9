import Derived.Test.Qxb6600689aEb
import Derived.Test.Qxb6600689aPlain2
import Derived.Great.BuildSlice
namespace Go.Proofs.Qxb6600689a
open Go.ChangeShapes Go.WideShapes Go.ChangeAt Go.RowKit
set_option linter.unusedVariables false

/-! ### The rounds: a slice of slices -/
def Rd (w : World) (B : Nat) (p : Option Addr) (rs : List (List Int)) : Prop := ∀ r, r < rs.length → ∃ gr g c, p = some ⟨gr, 0, none⟩ ∧ gr < B ∧ g < B ∧
  w.cell? ⟨gr, r, none⟩ = some (.slice (some ⟨g, 0, none⟩) (rs.getD r []).length c) ∧ ∀ i, i < (rs.getD r []).length → w.cell? ⟨g, i, none⟩ = some (.int .i64 ((rs.getD r []).getD i 0))
theorem Rd.below {B : Nat} {w w' : World} {p : Option Addr} {rs : List (List Int)} (h : Rd w B p rs) (b : Below B w w') : Rd w' B p rs := fun r hr => by
  obtain ⟨gr, g, c, e, h1, h2, h3, h4⟩ := h r hr
  exact ⟨gr, g, c, e, h1, h2, (b.cell (p := ⟨gr, r, none⟩) h1).trans h3, fun i hi => (b.cell (p := ⟨g, i, none⟩) h2).trans (h4 i hi)⟩
theorem Rd.mono {B B' : Nat} {w : World} {p : Option Addr} {rs : List (List Int)} (h : Rd w B p rs) (hB : B ≤ B') : Rd w B' p rs := fun r hr => by
  obtain ⟨gr, g, c, e, h1, h2, h3, h4⟩ := h r hr
  exact ⟨gr, g, c, e, by omega, by omega, h3, h4⟩
/-- What the rounds hold. -/
def Rounds (q : Nat → Nat → Bool) (rs : List (List Int)) : Prop := ∀ r, r < rs.length → (rs.getD r []).length = 2 * r + 1 ∧ ∀ j, j ≤ r → ∃ x : Nat, (rs.getD r []).getD (2 * j) 0 = x ∧ Fr q r (2 * j - r) x
def rd (bz : List Int) (d k : Int) : Int := bz.getD (k + d - 1).toNat 0
theorem Rounds.prev {q : Nat → Nat → Bool} {rs : List (List Int)} (h : Rounds q rs) {d : Nat} (hd : d < rs.length) : Prev q (rd (rs.getD d []) ((d + 1 : Nat) : Int)) (d + 1) := by
  refine ⟨fun h => by omega, fun j hj => ?_⟩
  obtain ⟨x, e, f⟩ := (h d hd).2 j (by omega)
  refine ⟨x, ?_, ?_⟩
  · rw [rd, show (2 * (j : Int) - ((d + 1 : Nat) : Int) + 1 + ((d + 1 : Nat) : Int) - 1).toNat = 2 * j by omega, e]
  · rw [show (2 * (j : Int) - ((d + 1 : Nat) : Int) + 1) = 2 * j - d by omega]
    exact f

/-! ### The edits: a row that grows within its room -/
def Ed (w : World) (g cap : Nat) (es : List Int) : Prop := w.ownsRow g 38 1 (.slice (some ⟨g, 0, none⟩) es.length cap) es.length (yv es)
theorem Ed.lt {w : World} {g cap : Nat} {es : List Int} (h : Ed w g cap es) : g < w.heap.size := (World.ownsRow.lt h g rfl).2
theorem Ed.of_block {w w' : World} {g cap : Nat} {es : List Int} (h : Ed w g cap es) (e : w'.heap[g]? = w.heap[g]?) : Ed w' g cap es := by
  obtain ⟨h0, h⟩ := h
  refine ⟨h0, ?_⟩
  rcases h with ⟨h, _⟩ | ⟨g', cap', cur, h1, h2, h3, h4⟩
  · cases h
  · have hg : g = g' := by simp only [Value.slice.injEq, Option.some.injEq, Addr.mk.injEq] at h1; exact h1.1.1
    subst hg
    exact .inr ⟨g, cap', cur, h1, h2, e.trans h3, h4⟩
theorem Ed.cell {w : World} {g cap : Nat} {es : List Int} (h : Ed w g cap es) {i : Nat} (hi : i < es.length) : w.cell? ⟨g, i, none⟩ = some (.int .u8 (es.getD i 0)) := by
  rw [World.ownsRow.cellAt h i (by omega), yv_get hi]
theorem Ed.frozen {w : World} {g cap : Nat} {es : List Int} (h : Ed w g cap es) (i : Nat) : w.frozen? ⟨g, i, none⟩ = false := World.ownsRow.frozenAt h i
theorem Ed.set {w : World} {g cap : Nat} {es : List Int} (h : Ed w g cap es) (i : Nat) (z : Int) : Ed (w.setCell ⟨g, i, none⟩ (.int .u8 z)) g cap (es.set i z) := by
  have := (World.ownsRow.stored h i (.int .u8 z)).1
  rw [yv_set] at this
  unfold Ed
  rw [List.length_set]
  exact this
theorem fill38 (z : Int) : Instr.fill (fun i => some (i * 1, 1)) ((Array.range (1 * 1)).map ((Value.int .u8 0).cells[· % (Value.int .u8 0).cells.size]!)) [(0, .int .u8 z)] = some #[.int .u8 z] := by kernel_rfl
/-- 'edits = append(edits, z)' -/
theorem wpl_push {ops : Array Oper} {rest : List Oper} {o o' : Oper} {a : Act} {w : World} {Q : Exit → Act → World → Prop} (hgd : o.guard = none) (hgd' : o'.guard = none) (z : Int) (ho : o.op = .buildSlice 32 1 #[(0, .const (.int .u8 z))]) (s x : Operand)
    (ho' : o'.op = .call { callee := .builtin .append, args := #[s, x], argTypes := #[32, 32] }) {g cap : Nat} {es : List Int} (hs : (a.put o.dst (.slice (some ⟨w.heap.size, 0, none⟩) 1 1)).eval s = .slice (some ⟨g, 0, none⟩) es.length cap)
    (hx : (a.put o.dst (.slice (some ⟨w.heap.size, 0, none⟩) 1 1)).eval x = .slice (some ⟨w.heap.size, 0, none⟩) 1 1) (own : Ed w g cap es) (room : es.length + 1 ≤ cap)
    (h : ∀ (v : Value) (w' : World), Ed w' g cap (es ++ [z]) → (∀ B, B ≤ g → Below B w w') → (∀ j, j ≠ g → j < w.heap.size → w'.heap[j]? = w.heap[j]?) → wpList Try.prog ops Q rest ((a.put o.dst v).put o'.dst (.slice (some ⟨g, 0, none⟩) (es ++ [z]).length cap)) w') : wpList Try.prog ops Q (o :: o' :: rest) a w := by
  obtain ⟨i, hi, hz, hsz, hb⟩ := info38
  have hlt := own.lt
  refine wpList_buildSlice hgd 32 38 1 #[(0, .const (.int .u8 z))] ho #[.int .u8 z] i _ Try.underlying32 hi hz (by rw [hsz]; omega) (by rw [hsz]; omega) ?_ ?_
  · rw [hsz]; simp only [List.map_toArray, List.map_cons, List.map_nil, Act.eval]; exact fill38 z
  · have own1 : Ed (w.alloc (.cells #[.int .u8 z] 38)) g cap es := World.ownsRow.alloc own _
    refine wpList_append_fits _ hgd' s x 32 ho' g 38 i 1 Try.underlying32 hi hsz g es.length cap (yv es) hs own1 ⟨w.heap.size, 0, none⟩ 1 1 [.int .u8 z] hx rfl ?_ ?_ room ?_
    · intro j u hj
      match j, hj with
      | 0, hj => simp at hj; subst hj; exact (Blk.cellAt ⟨38, heap_alloc_last w _⟩ 0 rfl)
    · intro u hu; simp at hu; subst hu; rfl
    · intro w' hown hgr
      rw [show es.length + 1 = (es ++ [z]).length by simp]
      refine h _ w' ?_ ?_ ?_
      · unfold Ed
        rw [show yv (es ++ [z]) = yv es ++ [.int .u8 z] by simp [yv], show (es ++ [z]).length = es.length + 1 by simp]
        exact hown
      · intro B hB
        refine Below.grown ((Below.refl B w).alloc (by omega) _) hgr ?_ (fun k hk => by cases hk; exact hB)
        have : w.heap.size ≤ (w.alloc (.cells #[.int .u8 z] 38)).heap.size := ((Below.refl B w).alloc (by omega) (.cells #[.int .u8 z] 38)).size
        omega
      · intro j hj hjl
        refine (hgr.block j ?_ (fun e => hj (Option.some.inj e))).trans (Below.heap_alloc w _ j hjl)
        have : w.heap.size ≤ (w.alloc (.cells #[.int .u8 z] 38)).heap.size := ((Below.refl 0 w).alloc (by omega) (.cells #[.int .u8 z] 38)).size
        omega

/-! ### Variables of their own -/
theorem wpl_box3 {ops : Array Oper} {rest : List Oper} {o : Oper} {a : Act} {w : World} {Q : Exit → Act → World → Prop} (hgd : o.guard = none) (x : Operand) (ho : o.op = .box 3 x) (z : Int) (hx : a.eval x = .int .i64 z)
    (h : ∀ (g : Nat) (w' : World), Blk w' g [.int .i64 z] → Below w.heap.size w w' → w.heap.size ≤ g → wpList Try.prog ops Q rest (a.put o.dst (.pointer (some ⟨g, 0, none⟩))) w') : wpList Try.prog ops Q (o :: rest) a w :=
  wpList_plain hgd fun _ hK => by
    have hh := hK _ _ (h w.heap.size (w.alloc (.cells #[.int .i64 z] 3)) ⟨3, heap_alloc_last w _⟩ ((Below.refl _ _).alloc (Nat.le_refl _) _) (Nat.le_refl _))
    unfold Oper.wp execOp
    simp only [ho]
    rw [hx]
    exact hh
theorem run_zero22 (w : World) : (zeroValue 22).run Try.prog w = .ok (.slice none 0 0) w := by
  obtain ⟨i, hi, hz, hs, hb⟩ := info22
  simp [zeroValue, typeInfo, hi, hz]
theorem wpl_alloc22 {ops : Array Oper} {rest : List Oper} {o : Oper} {a : Act} {w : World} {Q : Exit → Act → World → Prop} (hgd : o.guard = none) (ho : o.op = .alloc 22)
    (h : ∀ (g : Nat) (w' : World), Blk w' g [.slice none 0 0] → Below w.heap.size w w' → w.heap.size ≤ g → wpList Try.prog ops Q rest (a.put o.dst (.pointer (some ⟨g, 0, none⟩))) w') : wpList Try.prog ops Q (o :: rest) a w :=
  wpList_plain hgd fun K hK => by
    have hh := hK _ _ (h w.heap.size (w.alloc (.cells #[.slice none 0 0] 22)) ⟨22, heap_alloc_last w _⟩ ((Below.refl _ _).alloc (Nat.le_refl _) _) (Nat.le_refl _))
    unfold Oper.wp execOp
    simp only [ho, Instr.alloc, Sem.run_bind, run_zero22, Result.andThen_ok]
    exact hh
theorem wpl_storeS {ops : Array Oper} {rest : List Oper} {o : Oper} {a : Act} {w : World} {Q : Exit → Act → World → Prop} (hgd : o.guard = none) {x y : Operand} (ho : o.op = .store 22 x y) {g k : Nat} (hx : a.eval x = .pointer (some ⟨g, k, none⟩)) {q : Option Addr} {n c : Nat} (hy : a.eval y = .slice q n c)
    {l : List Value} (hg : Blk w g l) (hk : k < l.length)
    (h : ∀ w' : World, Blk w' g (l.set k (.slice q n c)) → (∀ B, B ≤ g → Below B w w') → (∀ j, j ≠ g → w'.heap[j]? = w.heap[j]?) → wpList Try.prog ops Q rest (a.put o.dst undef) w') : wpList Try.prog ops Q (o :: rest) a w :=
  wpList_plain hgd fun K hK => by
    have hh := hK _ _ (h (w.setCell ⟨g, k, none⟩ (.slice q n c)) (hg.setCell k _) (fun B hB => (Below.refl B w).setCell hB _) (fun j hj => heap_setCell_other w ⟨g, k, none⟩ j _ hj))
    have hc : w.cell? ⟨g, k, none⟩ = some (l[k]'hk) := hg.cellAt k (List.getElem?_eq_getElem hk)
    have hf : w.frozen? ⟨g, k, none⟩ = false := hg.frozenAt k
    have hs : (storeVar 22 ⟨g, k, none⟩ (.slice q n c)).run Try.prog w = .ok () (w.setCell ⟨g, k, none⟩ (.slice q n c)) := by
      simp [storeVar, run_size size22, Value.cells, storeCells, Addr.add, run_store_slice, stored, hc, hf]
    unfold Oper.wp execOp
    simp only [ho]
    rw [hx, hy]
    simp only [Instr.storeAt, Instr.sureAddr, Sem.run_bind, Sem.run_pure, Result.andThen_ok, hs]
    exact hh
/-- make([]edit, 0, c) -/
theorem wpl_make38 {ops : Array Oper} {rest : List Oper} {o : Oper} {a : Act} {w : World} {Q : Exit → Act → World → Prop} (hgd : o.guard = none) {x y : Operand} (ho : o.op = .makeSlice 32 x y) (c : Nat) (z : Int) (hx : a.eval x = .int .i64 0) (hy : a.eval y = .int .i64 z) (hz : z = (c : Int)) (hn : c ≤ 1048576)
    (h : ∀ (g : Nat) (w' : World), Ed w' g c [] → Below w.heap.size w w' → w.heap.size ≤ g → wpList Try.prog ops Q rest (a.put o.dst (.slice (some ⟨g, 0, none⟩) 0 c)) w') : wpList Try.prog ops Q (o :: rest) a w := by
  obtain ⟨i, hi, hz', hs, hb⟩ := info38
  refine wpList_make_own w hgd x y 32 ho w.heap.size 38 i _ 1 Try.underlying32 hi hz' hs .i64 .i64 z c hx hy hz (by rw [hb]; omega) (by simp only [maxLen]; omega) (Nat.le_refl _) ?_
  intro w' hown hgr
  exact h _ w' hown (Below.grown (Below.refl _ _) hgr (Nat.le_refl _) (fun k hk => by cases hk)) (Nat.le_refl _)

/-- The closure 'at', its value named. -/
theorem at_val (gb gd g : Nat) (zs : List Int) (L c : Nat) (hL : zs.length = L) (d k v : Int) (w : World) (hb : w.cell? ⟨gb, 0, none⟩ = some (.slice (some ⟨g, 0, none⟩) L c)) (hd : w.cell? ⟨gd, 0, none⟩ = some (.int .i64 d)) (hd1 : 0 ≤ d) (hd2 : d ≤ 16384) (hk1 : -16384 ≤ k) (hk2 : k ≤ 16384)
    (h0 : 0 ≤ k + d - 1) (h1 : k + d - 1 < L) (hz : ∀ i, i < zs.length → w.cell? ⟨g, i, none⟩ = some (.int .i64 (zs.getD i 0))) (hv : rd zs d k = v) :
    Calls Try.prog 16 #[.int .i64 k, .pointer (some ⟨gb, 0, none⟩), .pointer (some ⟨gd, 0, none⟩)] w fun e w' => e = .returned (.int .i64 v) ∧ w' = w := by
  subst hv hL
  exact at_any gb gd g zs c d k w hb hd hd1 hd2 hk1 hk2 h0 h1 (hz _ (by omega))
end Go.Proofs.Qxb6600689a
