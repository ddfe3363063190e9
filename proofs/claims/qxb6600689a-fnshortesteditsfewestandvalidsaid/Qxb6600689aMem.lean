import Derived.Test.Qxb6600689aRows
import Derived.Test.Qxb6600689aPlain
import Derived.WalkKit
import Derived.ProofKit
import Derived.Below
import Derived.Carry
import Derived.OwnWalk
import Derived.Laws.AppendOwn
import Derived.Laws.OwnMore
import Derived.Laws.Rows
import Derived.Deep.WholeRow
import Derived.BigQuiet
import Derived.WalkSpells
namespace Go.Proofs.Qxb6600689a
open Go.ChangeShapes Go.WideShapes Go.ChangeAt Go.RowKit
set_option linter.unusedVariables false

theorem wpl_val {P : Program} {ops : Array Oper} {rest : List Oper} {o : Oper} {a : Act} {w : World} {Q : Exit → Act → World → Prop} (hgd : o.guard = none) (v : Value) (hr : (execOp a.eval o).run P w = .ok (.value v) w)
    (h : wpList P ops Q rest (a.put o.dst v) w) : wpList P ops Q (o :: rest) a w :=
  wpList_plain hgd fun _ hK => by unfold Oper.wp; rw [hr]; exact hK _ _ h

/-- Block g holds just these cells. -/
def Blk (w : World) (g : Nat) (l : List Value) : Prop := ∃ t, w.heap[g]? = some (.cells l.toArray t (0, 0))
theorem Blk.lt {w : World} {g : Nat} {l : List Value} (h : Blk w g l) : g < w.heap.size := by
  obtain ⟨t, h⟩ := h
  by_cases hg : g < w.heap.size
  · exact hg
  · simp [Array.getElem?_eq_none (Nat.le_of_not_lt hg)] at h
theorem Blk.of_block {w w' : World} {g : Nat} {l : List Value} (h : Blk w g l) (e : w'.heap[g]? = w.heap[g]?) : Blk w' g l := by
  obtain ⟨t, h⟩ := h
  exact ⟨t, e.trans h⟩
theorem Blk.below {B : Nat} {w w' : World} {g : Nat} {l : List Value} (h : Blk w g l) (b : Below B w w') (hg : g < B) : Blk w' g l := h.of_block (b.block g hg)
theorem Blk.cellAt {w : World} {g : Nat} {l : List Value} {v : Value} (h : Blk w g l) (i : Nat) (hv : l[i]? = some v) : w.cell? ⟨g, i, none⟩ = some v := by
  obtain ⟨t, h⟩ := h
  rw [cell_of_row w g _ _ t _ h, List.getElem?_toArray, hv]
theorem Blk.frozenAt {w : World} {g : Nat} {l : List Value} (h : Blk w g l) (i : Nat) : w.frozen? ⟨g, i, none⟩ = false := by
  obtain ⟨t, h⟩ := h
  simp [World.frozen?, h]
theorem Blk.setCell {w : World} {g : Nat} {l : List Value} (h : Blk w g l) (k : Nat) (v : Value) : Blk (w.setCell ⟨g, k, none⟩ v) g (l.set k v) := by
  obtain ⟨t, h⟩ := h
  exact ⟨t, by rw [heap_setCell_same w g k _ t _ h, List.setIfInBounds_toArray]⟩

/-- A row of ints; of bytes. -/
def iv (zs : List Int) : List Value := zs.map (Value.int .i64)
def yv (zs : List Int) : List Value := zs.map (Value.int .u8)
theorem iv_get {zs : List Int} {i : Nat} (h : i < zs.length) : (iv zs)[i]? = some (.int .i64 (zs.getD i 0)) := by
  simp [iv, List.getD_eq_getElem?_getD, List.getElem?_eq_getElem h]
theorem yv_get {zs : List Int} {i : Nat} (h : i < zs.length) : (yv zs)[i]? = some (.int .u8 (zs.getD i 0)) := by
  simp [yv, List.getD_eq_getElem?_getD, List.getElem?_eq_getElem h]
theorem iv_set (zs : List Int) (i : Nat) (z : Int) : (iv zs).set i (.int .i64 z) = iv (zs.set i z) := by simp [iv, List.map_set]
theorem yv_set (zs : List Int) (i : Nat) (z : Int) : (yv zs).set i (.int .u8 z) = yv (zs.set i z) := by simp [yv, List.map_set]
theorem Blk.i {w : World} {g : Nat} {zs : List Int} (h : Blk w g (iv zs)) {i : Nat} (hi : i < zs.length) : w.cell? ⟨g, i, none⟩ = some (.int .i64 (zs.getD i 0)) := h.cellAt i (iv_get hi)
theorem Blk.y {w : World} {g : Nat} {zs : List Int} (h : Blk w g (yv zs)) {i : Nat} (hi : i < zs.length) : w.cell? ⟨g, i, none⟩ = some (.int .u8 (zs.getD i 0)) := h.cellAt i (yv_get hi)

/-- A slice of ints at p, in blocks below B. -/
def In (w : World) (B : Nat) (p : Option Addr) (zs : List Int) : Prop := ∀ i, i < zs.length → ∃ g, p = some ⟨g, 0, none⟩ ∧ g < B ∧ w.cell? ⟨g, i, none⟩ = some (.int .i64 (zs.getD i 0))
theorem In.below {B : Nat} {w w' : World} {p : Option Addr} {zs : List Int} (h : In w B p zs) (b : Below B w w') : In w' B p zs := fun i hi => by
  obtain ⟨g, e, hg, hc⟩ := h i hi
  exact ⟨g, e, hg, (b.cell (p := ⟨g, i, none⟩) hg).trans hc⟩
theorem In.mono {B B' : Nat} {w : World} {p : Option Addr} {zs : List Int} (h : In w B p zs) (hB : B ≤ B') : In w B' p zs := fun i hi => by
  obtain ⟨g, e, hg, hc⟩ := h i hi
  exact ⟨g, e, by omega, hc⟩
theorem In.of_blk {w : World} {g : Nat} {zs : List Int} (h : Blk w g (iv zs)) : In w w.heap.size (some ⟨g, 0, none⟩) zs := fun i hi => ⟨g, rfl, h.lt, h.i hi⟩

/-! ### Rows that are made -/
theorem own_blk {w : World} {base : Nat} {e : TypeId} {size : Nat} {g n : Nat} {xs : List Value} (h : w.ownsRow base e size (.slice (some ⟨g, 0, none⟩) n n) n xs) : Blk w g xs := by
  obtain ⟨h0, h⟩ := h
  rcases h with ⟨h, _⟩ | ⟨g', cap, cur, h1, h2, h3, h4, h5, h6, h7⟩
  · cases h
  · simp only [Value.slice.injEq, Option.some.injEq, Addr.mk.injEq, and_true, true_and] at h1
    obtain ⟨rfl, rfl⟩ := h1
    rw [List.take_of_length_le (by simp [h6])] at h7
    subst h7
    exact ⟨e, h3⟩
theorem info3 : ∃ i, Try.prog.info? 3 = some i ∧ i.zero = some (.int .i64 0) ∧ i.size = 1 ∧ i.bytes = 8 := info_parts (by kernel_rfl)
theorem info5 : ∃ i, Try.prog.info? 5 = some i ∧ i.zero = some (.int .u8 0) ∧ i.size = 1 ∧ i.bytes = 1 := info_parts (by kernel_rfl)
theorem info38 : ∃ i, Try.prog.info? 38 = some i ∧ i.zero = some (.int .u8 0) ∧ i.size = 1 ∧ i.bytes = 1 := info_parts (by kernel_rfl)
theorem info22 : ∃ i, Try.prog.info? 22 = some i ∧ i.zero = some (.slice none 0 0) ∧ i.size = 1 ∧ i.bytes = 24 := info_parts (by kernel_rfl)
theorem size3 : (Try.prog.info? 3).map (·.size) = some 1 := by kernel_rfl
theorem size5 : (Try.prog.info? 5).map (·.size) = some 1 := by kernel_rfl
theorem size38 : (Try.prog.info? 38).map (·.size) = some 1 := by kernel_rfl
theorem size22 : (Try.prog.info? 22).map (·.size) = some 1 := by kernel_rfl
theorem wpl_make3 {ops : Array Oper} {rest : List Oper} {o : Oper} {a : Act} {w : World} {Q : Exit → Act → World → Prop} (hgd : o.guard = none) {x y : Operand} (ho : o.op = .makeSlice 22 x y) (n : Nat) (z : Int) (hx : a.eval x = .int .i64 z) (hy : a.eval y = .int .i64 z) (hz : z = (n : Int)) (hn : n ≤ 1048576)
    (h : ∀ (g : Nat) (w' : World), Blk w' g (iv (List.replicate n 0)) → Below w.heap.size w w' → w.heap.size ≤ g → wpList Try.prog ops Q rest (a.put o.dst (.slice (some ⟨g, 0, none⟩) n n)) w') : wpList Try.prog ops Q (o :: rest) a w := by
  subst hz
  obtain ⟨i, hi, hz, hs, hb⟩ := info3
  refine wpList_make_full w hgd x y 22 ho w.heap.size 3 i _ 1 Try.underlying22 hi hz hs .i64 .i64 n n n hx hy rfl rfl (by rw [hb]; omega) (by simp only [maxLen]; omega) (Nat.le_refl _) ?_
  intro w' hown hgr
  refine h _ w' ?_ (Below.grown (Below.refl _ _) hgr (Nat.le_refl _) (fun k hk => by cases hk)) (Nat.le_refl _)
  have := own_blk hown
  rw [Nat.mul_one] at this
  have e := toList_madeCells_one (.int .i64 0) n
  rw [show iv (List.replicate n 0) = List.replicate n (Value.int .i64 0) by simp [iv]]
  exact e ▸ this
theorem wpl_make5 {ops : Array Oper} {rest : List Oper} {o : Oper} {a : Act} {w : World} {Q : Exit → Act → World → Prop} (hgd : o.guard = none) {x y : Operand} (ho : o.op = .makeSlice 26 x y) (n : Nat) (z : Int) (hx : a.eval x = .int .i64 z) (hy : a.eval y = .int .i64 z) (hz : z = (n : Int)) (hn : n ≤ 1048576)
    (h : ∀ (g : Nat) (w' : World), Blk w' g (yv (List.replicate n 0)) → Below w.heap.size w w' → w.heap.size ≤ g → wpList Try.prog ops Q rest (a.put o.dst (.slice (some ⟨g, 0, none⟩) n n)) w') : wpList Try.prog ops Q (o :: rest) a w := by
  subst hz
  obtain ⟨i, hi, hz, hs, hb⟩ := info5
  refine wpList_make_full w hgd x y 26 ho w.heap.size 5 i _ 1 Try.underlying26 hi hz hs .i64 .i64 n n n hx hy rfl rfl (by rw [hb]; omega) (by simp only [maxLen]; omega) (Nat.le_refl _) ?_
  intro w' hown hgr
  refine h _ w' ?_ (Below.grown (Below.refl _ _) hgr (Nat.le_refl _) (fun k hk => by cases hk)) (Nat.le_refl _)
  have := own_blk hown
  rw [Nat.mul_one] at this
  have e := toList_madeCells_one (.int .u8 0) n
  rw [show yv (List.replicate n 0) = List.replicate n (Value.int .u8 0) by simp [yv]]
  exact e ▸ this
/-- A number goes into a row. -/
theorem run_size {e : TypeId} {sz : Nat} (hs : (Try.prog.info? e).map (·.size) = some sz) (w : World) : (sizeOf e).run Try.prog w = .ok sz w := by
  cases hq : Try.prog.info? e with
  | none => simp [hq] at hs
  | some j => simp [hq] at hs; simp [sizeOf, typeInfo, hq, hs]
theorem wpl_storeI {e : TypeId} (hsz : (Try.prog.info? e).map (·.size) = some 1) {ops : Array Oper} {rest : List Oper} {o : Oper} {a : Act} {w : World} {Q : Exit → Act → World → Prop} (hgd : o.guard = none) {x y : Operand} (ho : o.op = .store e x y) {g k : Nat} (hx : a.eval x = .pointer (some ⟨g, k, none⟩)) {kd : IntKind} {s : Int} (hy : a.eval y = .int kd s)
    {l : List Value} (hg : Blk w g l) (hk : k < l.length)
    (h : ∀ w' : World, Blk w' g (l.set k (.int kd s)) → (∀ B, B ≤ g → Below B w w') → (∀ j, j ≠ g → w'.heap[j]? = w.heap[j]?) → wpList Try.prog ops Q rest (a.put o.dst undef) w') : wpList Try.prog ops Q (o :: rest) a w :=
  wpList_plain hgd fun K hK => by
    have hh := hK _ _ (h (w.setCell ⟨g, k, none⟩ (.int kd s)) (hg.setCell k _) (fun B hB => (Below.refl B w).setCell hB _) (fun j hj => heap_setCell_other w ⟨g, k, none⟩ j _ hj))
    have hc : w.cell? ⟨g, k, none⟩ = some (l[k]'hk) := hg.cellAt k (List.getElem?_eq_getElem hk)
    have hf : w.frozen? ⟨g, k, none⟩ = false := hg.frozenAt k
    have hs : (storeVar e ⟨g, k, none⟩ (.int kd s)).run Try.prog w = .ok () (w.setCell ⟨g, k, none⟩ (.int kd s)) := by
      simp [storeVar, run_size hsz, Value.cells, storeCells, Addr.add, run_store_int, stored, hc, hf]
    unfold Oper.wp execOp
    simp only [ho]
    rw [hx, hy]
    simp only [Instr.storeAt, Instr.sureAddr, Sem.run_bind, Sem.run_pure, Result.andThen_ok, hs]
    exact hh
end Go.Proofs.Qxb6600689a
