import Derived.Test.Qxb6001692aRows
import Derived.Test.Qxb6001692aPlain
import Derived.WalkKit
import Derived.ProofKit
import Derived.Below
import Derived.Laws.Rows
import Derived.Deep.WholeRow
import Derived.Deep.MidRow
import Derived.Deep.Draws
namespace Go.Proofs.Qxb6001692a
open Go.ChangeShapes Go.WideShapes Go.ChangeAt Go.RowKit

/-- An identifier's cells. -/
def idc (xs : List Int) : Array Value := (xs.map (Value.int .u8)).toArray
theorem idc_size (xs : List Int) : (idc xs).size = xs.length := by simp [idc]
theorem idc_get (xs : List Int) (i : Nat) (h : i < xs.length) : (idc xs)[i]? = some (.int .u8 (xs.getD i 0)) := by
  simp [idc, List.getD_eq_getElem?_getD, h]

/-- Block g holds the identifier xs, and may be written. -/
def Has (w : World) (g : Nat) (xs : List Int) : Prop := Id20 xs ∧ ∃ t, w.heap[g]? = some (.cells (idc xs) t (0, 0))
theorem Has.id {w : World} {g : Nat} {xs : List Int} (h : Has w g xs) : Id20 xs := h.1
theorem Has.lt {w : World} {g : Nat} {xs : List Int} (h : Has w g xs) : g < w.heap.size := by
  obtain ⟨_, t, h⟩ := h
  by_cases hg : g < w.heap.size
  · exact hg
  · simp [Array.getElem?_eq_none (Nat.le_of_not_lt hg)] at h
theorem Has.of_block {w w' : World} {g : Nat} {xs : List Int} (h : Has w g xs) (e : w'.heap[g]? = w.heap[g]?) : Has w' g xs := by
  obtain ⟨hi, t, h⟩ := h
  exact ⟨hi, t, e.trans h⟩
theorem Has.below {w w' : World} {g B : Nat} {xs : List Int} (h : Has w g xs) (b : Below B w w') (hB : g < B) : Has w' g xs := h.of_block (b.block g hB)
theorem Has.below' {w w' : World} {g : Nat} {xs : List Int} (h : Has w g xs) (b : Below w.heap.size w w') : Has w' g xs := h.below b h.lt
theorem Has.via {w w' : World} {g : Nat} {xs : List Int} (b : Below w.heap.size w w') (h : Has w g xs) : Has w' g xs := h.below' b
theorem Has.alloc {w : World} {g : Nat} {xs : List Int} (h : Has w g xs) (o : Obj) : Has (w.alloc o) g xs := h.of_block (Below.heap_alloc w o g h.lt)
theorem Has.drew {w : World} {g : Nat} {xs : List Int} (h : Has w g xs) : Has w.drew g xs := h
theorem Has.drewN {w : World} {g : Nat} {xs : List Int} (h : Has w g xs) (n : Nat) : Has (w.drewN n) g xs := h
theorem Below.chain {a b c : World} (h : Below a.heap.size a b) (k : Below b.heap.size b c) : Below a.heap.size a c := h.trans (k.mono h.size)
theorem Below.via {a b c : World} (k : Below b.heap.size b c) (h : Below a.heap.size a b) : Below a.heap.size a c := Below.chain h k
theorem Below.drewN' {B : Nat} {a w : World} (h : Below B a w) (n : Nat) : Below B a (w.drewN n) := ⟨h.os, h.tape, h.output, h.size, h.block⟩
theorem Has.new (w : World) {xs : List Int} (hx : Id20 xs) (t : TypeId) : Has (w.alloc (.cells (idc xs) t)) w.heap.size xs := ⟨hx, t, heap_alloc_last w _⟩
theorem Has.cell {w : World} {g : Nat} {xs : List Int} (h : Has w g xs) (i : Nat) (hi : i < 20) : w.cell? ⟨g, i, none⟩ = some (.int .u8 (xs.getD i 0)) := by
  obtain ⟨hd, t, h⟩ := h
  rw [cell_of_row w g i _ t _ h, idc_get xs i (by rw [hd.1]; exact hi)]
theorem Has.free {w : World} {g : Nat} {xs : List Int} (h : Has w g xs) (i : Nat) : w.frozen? ⟨g, i, none⟩ = false := by
  obtain ⟨_, t, h⟩ := h
  exact frozen_of_row w g i _ t h

theorem size26 : (Try.prog.info? 26).map (·.size) = some 20 := by kernel_rfl
theorem size25 : (Try.prog.info? 22).map (·.size) = some 20 := by kernel_rfl

/-- The whole identifier is loaded. -/
theorem wp_load26 {o : Oper} {a : Act} {w : World} {K : Act → World → Prop} {Q : Exit → Act → World → Prop} (x : Operand) (ho : o.op = .load 26 x)
    (g : Nat) (hx : a.eval x = .pointer (some ⟨g, 0, none⟩)) (xs : List Int) (hg : Has w g xs)
    (h : K (a.put o.dst (.agg (idc xs))) w) : o.wp Try.prog a w K Q := by
  obtain ⟨hi, t, hg⟩ := hg
  exact wp_load_row 26 x ho g hx t (idc xs) (0, 0) _ hg Try.underlying26 rfl (by rw [idc_size, hi.1]; exact size26) h
theorem wpl_load26 {ops : Array Oper} {rest : List Oper} {o : Oper} {a : Act} {w : World} {Q : Exit → Act → World → Prop} (hgd : o.guard = none) (x : Operand) (ho : o.op = .load 26 x)
    (g : Nat) (hx : a.eval x = .pointer (some ⟨g, 0, none⟩)) (xs : List Int) (hg : Has w g xs)
    (h : wpList Try.prog ops Q rest (a.put o.dst (.agg (idc xs))) w) : wpList Try.prog ops Q (o :: rest) a w :=
  wpList_plain hgd fun _ hK => wp_load26 x ho g hx xs hg (hK _ _ h)
theorem wp_load25 {o : Oper} {a : Act} {w : World} {K : Act → World → Prop} {Q : Exit → Act → World → Prop} (x : Operand) (ho : o.op = .load 22 x)
    (g : Nat) (hx : a.eval x = .pointer (some ⟨g, 0, none⟩)) (xs : List Int) (hg : Has w g xs)
    (h : K (a.put o.dst (.agg (idc xs))) w) : o.wp Try.prog a w K Q := by
  obtain ⟨hi, t, hg⟩ := hg
  exact wp_load_row 22 x ho g hx t (idc xs) (0, 0) _ hg Try.underlying22 rfl (by rw [idc_size, hi.1]; exact size25) h
theorem wpl_load25 {ops : Array Oper} {rest : List Oper} {o : Oper} {a : Act} {w : World} {Q : Exit → Act → World → Prop} (hgd : o.guard = none) (x : Operand) (ho : o.op = .load 22 x)
    (g : Nat) (hx : a.eval x = .pointer (some ⟨g, 0, none⟩)) (xs : List Int) (hg : Has w g xs)
    (h : wpList Try.prog ops Q rest (a.put o.dst (.agg (idc xs))) w) : wpList Try.prog ops Q (o :: rest) a w :=
  wpList_plain hgd fun _ hK => wp_load25 x ho g hx xs hg (hK _ _ h)

/-- An identifier is laid into a new variable: whatever the new world, of the old one nothing has turned. -/
theorem wp_box {t : TypeId} {o : Oper} {a : Act} {w : World} {K : Act → World → Prop} {Q : Exit → Act → World → Prop} (x : Operand) (ho : o.op = .box t x)
    (xs : List Int) (hx : a.eval x = .agg (idc xs)) (hi : Id20 xs)
    (h : ∀ (g : Nat) (w' : World), Has w' g xs → Below w.heap.size w w' → w.heap.size ≤ g → K (a.put o.dst (.pointer (some ⟨g, 0, none⟩))) w') : o.wp Try.prog a w K Q := by
  have hh := h w.heap.size (w.alloc (.cells (idc xs) t)) (Has.new w hi t) ((Below.refl _ _).alloc (Nat.le_refl _) _) (Nat.le_refl _)
  unfold Oper.wp execOp
  simp only [ho]
  rw [hx]
  exact hh
theorem wpl_box {t : TypeId} {ops : Array Oper} {rest : List Oper} {o : Oper} {a : Act} {w : World} {Q : Exit → Act → World → Prop} (hgd : o.guard = none) (x : Operand) (ho : o.op = .box t x)
    (xs : List Int) (hx : a.eval x = .agg (idc xs)) (hi : Id20 xs)
    (h : ∀ (g : Nat) (w' : World), Has w' g xs → Below w.heap.size w w' → w.heap.size ≤ g → wpList Try.prog ops Q rest (a.put o.dst (.pointer (some ⟨g, 0, none⟩))) w') : wpList Try.prog ops Q (o :: rest) a w :=
  wpList_plain hgd fun _ hK => wp_box x ho xs hx hi fun g w' h1 h2 h3 => hK _ _ (h g w' h1 h2 h3)

def zeros : List Int := List.replicate 20 0
theorem zeros_id : Id20 zeros := ⟨rfl, by intro z hz; have : z = 0 := by simpa [zeros] using hz
                                          subst this; decide⟩
theorem zero26 : (Try.prog.info? 26).map (fun i => (i.zero, i.size)) = some (some (.agg (idc zeros)), 20) := by kernel_rfl
theorem run_zero26 (w : World) : (zeroValue 26).run Try.prog w = .ok (.agg (idc zeros)) w := (zero_of_info zero26).1 w

/-- A new variable, zero. -/
theorem wpl_alloc26 {ops : Array Oper} {rest : List Oper} {o : Oper} {a : Act} {w : World} {Q : Exit → Act → World → Prop} (hgd : o.guard = none) (ho : o.op = .alloc 26)
    (h : ∀ (g : Nat) (w' : World), Has w' g zeros → Below w.heap.size w w' → w.heap.size ≤ g → wpList Try.prog ops Q rest (a.put o.dst (.pointer (some ⟨g, 0, none⟩))) w') : wpList Try.prog ops Q (o :: rest) a w :=
  wpList_plain hgd fun K hK => by
    have hh := hK _ _ (h w.heap.size (w.alloc (.cells (idc zeros) 26)) (Has.new w zeros_id 26) ((Below.refl _ _).alloc (Nat.le_refl _) _) (Nat.le_refl _))
    unfold Oper.wp execOp
    simp only [ho, Instr.alloc, Sem.run_bind, run_zero26, Result.andThen_ok]
    exact hh

theorem idc_one (xs : List Int) : (idc xs).all (·.oneCell') = true :=
  Array.all_eq_true_iff_forall_mem.2 (fun v hv => by
    simp only [idc, List.mem_toArray, List.mem_map] at hv
    obtain ⟨z, _, rfl⟩ := hv
    rfl)
/-- A whole identifier goes into a variable. -/
theorem wpl_store26 {ops : Array Oper} {rest : List Oper} {o : Oper} {a : Act} {w : World} {Q : Exit → Act → World → Prop} (hgd : o.guard = none) (x y : Operand) (ho : o.op = .store 26 x y)
    (g : Nat) (hx : a.eval x = .pointer (some ⟨g, 0, none⟩)) (xs : List Int) (hy : a.eval y = .agg (idc xs)) (hi : Id20 xs) (ys : List Int) (hg : Has w g ys)
    (h : ∀ w' : World, Has w' g xs → (∀ B, B ≤ g → Below B w w') → (∀ k, k ≠ g → w'.heap[k]? = w.heap[k]?) → wpList Try.prog ops Q rest (a.put o.dst undef) w') : wpList Try.prog ops Q (o :: rest) a w :=
  wpList_plain hgd fun K hK => by
    obtain ⟨hyi, t, hg⟩ := hg
    have hs : (idc ys).size = (idc xs).size := by rw [idc_size, idc_size, hyi.1, hi.1]
    have hr := run_storeVar_row (P := Try.prog) w g t 26 (idc ys) (idc xs) hg (by rw [idc_size, hi.1]; exact size26) hs (idc_one xs)
    have hk : ∀ k, k ≠ g → (w.setRow g (idc xs)).heap[k]? = w.heap[k]? := fun k hk => setRow_other w g k _ (by omega)
    have hh := hK _ _ (h (w.setRow g (idc xs)) ⟨hi, t, setRow_heap w g _ _ t _ hg⟩ (fun B hB => ⟨rfl, rfl, rfl, by simp, fun k hk' => hk k (by omega)⟩) hk)
    unfold Oper.wp execOp
    simp only [ho]
    rw [hx, hy]
    simp only [Instr.storeAt, Instr.sureAddr, Sem.run_bind, Sem.run_pure, Result.andThen_ok, hr]
    exact hh

/-- 'x := v': a new variable, and the whole identifier into it. -/
theorem wpl_var26 {ops : Array Oper} {rest : List Oper} {o o' : Oper} {a : Act} {w : World} {Q : Exit → Act → World → Prop} (hgd : o.guard = none) (ho : o.op = .alloc 26) (d : Nat) (hd : o.dst = some d) (hlt' : Nat.ble (d + 1) a.tmps.size = true)
    (hgd' : o'.guard = none) (y : Nat) (ho' : o'.op = .store 26 (.tmp d) (.tmp y)) (hd' : o'.dst = none) (hne' : Nat.beq y d = false) (xs : List Int) (hy : a.eval (.tmp y) = .agg (idc xs)) (hi : Id20 xs)
    (h : ∀ (g : Nat) (w' : World), Has w' g xs → Below w.heap.size w w' → w.heap.size ≤ g → wpList Try.prog ops Q rest (a.put (some d) (.pointer (some ⟨g, 0, none⟩))) w') : wpList Try.prog ops Q (o :: o' :: rest) a w := by
  have hlt : d < a.tmps.size := Nat.le_of_ble_eq_true hlt'
  have hne : y ≠ d := Nat.ne_of_beq_eq_false hne'
  refine wpl_alloc26 hgd ho fun g w1 h1 b1 l1 => ?_
  rw [hd]
  refine wpl_store26 hgd' _ _ ho' g ?_ xs ?_ hi zeros h1 fun w2 h2 b2 k2 => ?_
  · simp [Act.put, Act.eval, hlt]
  · rw [← hy]; simp [Act.put, Act.eval, Ne.symm hne]
  · rw [hd']
    exact h g w2 h2 (b1.trans (b2 _ l1)) l1
end Go.Proofs.Qxb6001692a
