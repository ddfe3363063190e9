import Derived.Test.Qxb6001692aTag
import Derived.OwnWalk
import Derived.Laws.AppendOwn
import Derived.StillTail
namespace Go.Proofs.Qxb6001692a
open Go.ChangeShapes Go.WideShapes Go.ChangeAt Go.RowKit
set_option linter.unusedVariables false

/-! ### Operations on slices -/
theorem run_size {e : TypeId} {sz : Nat} (hs : (Try.prog.info? e).map (·.size) = some sz) (w : World) : (sizeOf e).run Try.prog w = .ok sz w := by
  cases hq : Try.prog.info? e with
  | none => simp [hq] at hs
  | some j => simp [hq] at hs; simp [sizeOf, typeInfo, hq, hs]
theorem size9 : (Try.prog.info? 9).map (·.size) = some 1 := by kernel_rfl
theorem run_index {t e : TypeId} {sz : Nat} (ht : Try.prog.underlying t = some (.slice e)) (hs : (Try.prog.info? e).map (·.size) = some sz) {a : Act} {o : Oper} {w : World} {x y : Operand} (ho : o.op = .indexAddr t x y)
    {p : Addr} {n cap : Nat} (hx : a.eval x = .slice (some p) n cap) {i : Int} (hy : a.eval y = .int .i64 i) (h0 : 0 ≤ i) (h1 : i < (n : Int)) :
    (execOp a.eval o).run Try.prog w = .ok (.value (.pointer (some (p.add (i.toNat * sz))))) w := by
  unfold execOp
  simp only [ho]
  rw [hx, hy]
  have : (Instr.indexAt t (.slice (some p) n cap) (.int .i64 i)).run Try.prog w = .ok (.pointer (some (p.add (i.toNat * sz)))) w := by
    unfold Instr.indexAt
    simp [asIntOf, run_underlying ht, h0, h1, run_size hs]
  rw [Sem.run_bind, this]
  rfl
theorem run_loadS {a : Act} {o : Oper} {w : World} {x : Operand} (ho : o.op = .load 37 x) {p : Addr} (hx : a.eval x = .pointer (some p)) {q : Option Addr} {n c : Nat} (hc : w.cell? p = some (.slice q n c)) :
    (execOp a.eval o).run Try.prog w = .ok (.value (.slice q n c)) w := by
  unfold execOp
  simp only [ho]
  rw [hx]
  simp [Instr.loadAt, Instr.sureAddr, loadVar, hc]
theorem run_load9 {a : Act} {o : Oper} {w : World} {x : Operand} (ho : o.op = .load 9 x) {p : Addr} (hx : a.eval x = .pointer (some p)) {s : ByteArray} (hc : w.cell? p = some (.string s)) :
    (execOp a.eval o).run Try.prog w = .ok (.value (.string s)) w := by
  unfold execOp
  simp only [ho]
  rw [hx]
  simp [Instr.loadAt, Instr.sureAddr, loadVar, hc]
/-- Where s[1:] begins. -/
def tl (c : Nat) (p : Option Addr) : Option Addr := if c = 1 then p else p.map (·.add 21)
/-- s[1:] -/
theorem run_slice1 {a : Act} {o : Oper} {w : World} {x y : Operand} (ho : o.op = .slice 37 x (some y) none none) {p : Option Addr} {n cap : Nat} (hx : a.eval x = .slice p (n + 1) cap) (hy : a.eval y = .int .i64 1) (hn : n + 1 ≤ cap) :
    (execOp a.eval o).run Try.prog w = .ok (.value (.slice (tl cap p) n (cap - 1))) w := by
  unfold execOp
  simp only [ho, Option.map_some, Option.map_none]
  rw [hx, hy]
  have hb := run_sliceBound (P := Try.prog) w .i64 1 (n + 1) .sliceB (by omega) (by omega)
  have : (Instr.slice 37 (.slice p (n + 1) cap) (some (.int .i64 1)) none none).run Try.prog w = .ok (.slice (tl cap p) n (cap - 1)) w := by
    unfold Instr.slice
    simp [run_underlying Try.underlying37, Instr.sliceBounds, hb, run_size size39, tl]
  simp [Instr.sliceAt, run_underlying Try.underlying37, this]
/-- s[:len(s)-1] -/
theorem run_sliceL {a : Act} {o : Oper} {w : World} {x y : Operand} (ho : o.op = .slice 37 x none (some y) none) {p : Option Addr} {n cap : Nat} (hx : a.eval x = .slice p (n + 1) cap) (hy : a.eval y = .int .i64 (n : Int)) (hn : n + 1 ≤ cap) :
    (execOp a.eval o).run Try.prog w = .ok (.value (.slice p n cap)) w := by
  unfold execOp
  simp only [ho, Option.map_some, Option.map_none]
  rw [hx, hy]
  have hb := run_sliceBound (P := Try.prog) w .i64 (n : Int) cap .sliceAcap (by omega) (by omega)
  have : (Instr.slice 37 (.slice p (n + 1) cap) none (some (.int .i64 (n : Int))) none).run Try.prog w = .ok (.slice p n cap) w := by
    unfold Instr.slice
    simp [run_underlying Try.underlying37, Instr.sliceBounds, hb, run_size size39]
    intro _
    rcases p with _ | ⟨g, o, s⟩
    · rfl
    · simp [Addr.add]
  simp [Instr.sliceAt, run_underlying Try.underlying37, this]

theorem run_lenS {a : Act} {o : Oper} {w : World} {x : Operand} {c : Call} (ho : o.op = .call c) (hc : c = { callee := .builtin .len, args := #[x], argTypes := #[37] }) {p : Option Addr} {n cap : Nat} (hx : a.eval x = .slice p n cap) :
    (execOp a.eval o).run Try.prog w = .ok (.value (.int .i64 (n : Int))) w := by
  have h := run_len_slice (P := Try.prog) w 37 o.type p n cap Try.underlying37
  subst hc
  unfold execOp
  simp [ho, resolve, invoke, hx]
  unfold builtin
  simp [h, goInt]
theorem run_sub {P : Program} {a : Act} {o : Oper} {w : World} {x y : Operand} {t t' : TypeId} {p q r : Int} (ho : o.op = .binOp .sub t x y t') (hx : a.eval x = .int .i64 p) (hy : a.eval y = .int .i64 q) (h : IntKind.i64.wrap (p - q) = r) :
    (execOp a.eval o).run P w = .ok (.value (.int .i64 r)) w := by
  subst h
  unfold execOp
  simp only [ho]
  rw [hx, hy]
  rfl
theorem run_sub1 {a : Act} {o : Oper} {w : World} {x y : Operand} (ho : o.op = .binOp .sub 3 x y 3) {n : Nat} (hx : a.eval x = .int .i64 ((n + 1 : Nat) : Int)) (hy : a.eval y = .int .i64 1) (hn : n < 9223372036854775807) :
    (execOp a.eval o).run Try.prog w = .ok (.value (.int .i64 (n : Int))) w :=
  run_sub ho hx hy (by
    rw [show ((n + 1 : Nat) : Int) - 1 = (n : Int) by omega]
    rw [IntKind.wrap_i64]
    omega)

/-! ### Rows of peers -/
abbrev Peer := ByteArray × List Int
theorem rangeAt_append {w : World} {g o : Nat} {xs ys : List Value} : w.rangeAt g o (xs ++ ys) ↔ w.rangeAt g o xs ∧ w.rangeAt g (o + xs.length) ys := by
  constructor
  · intro h
    refine ⟨fun j v hv => h j v ?_, fun j v hv => ?_⟩
    · rw [List.getElem?_append_left (List.getElem?_eq_some_iff.1 hv).1]; exact hv
    · have := h (xs.length + j) v (by rw [List.getElem?_append_right (by omega)]; simpa using hv)
      rwa [show o + (xs.length + j) = o + xs.length + j by omega] at this
  · rintro ⟨h1, h2⟩ j v hv
    rcases Nat.lt_or_ge j xs.length with c | c
    · exact h1 j v (by rwa [List.getElem?_append_left c] at hv)
    · have := h2 (j - xs.length) v (by rwa [List.getElem?_append_right c] at hv)
      rwa [show o + xs.length + (j - xs.length) = o + j by omega] at this
theorem rangeAt_block {w w' : World} {g o : Nat} {xs : List Value} (e : w'.heap[g]? = w.heap[g]?) (h : w.rangeAt g o xs) : w'.rangeAt g o xs :=
  fun j v hv => (World.cell?_of_block (a := ⟨g, o + j, none⟩) e).trans (h j v hv)
def pcs (ps : List Peer) : List Value := ps.flatMap pc
theorem pcs_length {ps : List Peer} (h : ∀ x ∈ ps, Id20 x.2) : (pcs ps).length = ps.length * 21 := by
  induction ps with
  | nil => rfl
  | cons p ps ih =>
    have := ih fun x hx => h x (List.mem_cons_of_mem _ hx)
    simp only [pcs, List.flatMap_cons, List.length_append, List.length_cons] at this ⊢
    rw [this, pc_length (h p (List.mem_cons_self ..)).1]
    omega
theorem pcs_append (ps qs : List Peer) : pcs (ps ++ qs) = pcs ps ++ pcs qs := List.flatMap_append ..
theorem pcs_one (ps : List Peer) : ∀ v ∈ pcs ps, v.oneCell' = true := by
  intro v hv
  obtain ⟨p, _, hv⟩ := List.mem_flatMap.1 hv
  have := pc_one p
  rw [Array.all_eq_true_iff_forall_mem] at this
  exact this v (by simpa using hv)
/-- A slice of peers. -/
def SlP (w : World) (B : Nat) (p : Option Addr) (ps : List Peer) : Prop :=
  (∀ x ∈ ps, Id20 x.2) ∧ (ps = [] ∨ ∃ g off, p = some ⟨g, off, none⟩ ∧ g < B ∧ w.rangeAt g off (pcs ps))
theorem SlP.nil (w : World) (B : Nat) (p : Option Addr) : SlP w B p [] := ⟨fun _ h => by simp at h, .inl rfl⟩
theorem SlP.below {w w' : World} {B : Nat} {p : Option Addr} {ps : List Peer} (h : SlP w B p ps) (b : Below B w w') : SlP w' B p ps := by
  obtain ⟨hi, h⟩ := h
  refine ⟨hi, ?_⟩
  rcases h with h | ⟨g, off, e, hg, hr⟩
  · exact .inl h
  · exact .inr ⟨g, off, e, hg, rangeAt_block (b.block g hg) hr⟩
theorem SlP.mono {w : World} {B B' : Nat} {p : Option Addr} {ps : List Peer} (h : SlP w B p ps) (hB : B ≤ B') : SlP w B' p ps := by
  obtain ⟨hi, h⟩ := h
  refine ⟨hi, ?_⟩
  rcases h with h | ⟨g, off, e, hg, hr⟩
  · exact .inl h
  · exact .inr ⟨g, off, e, by omega, hr⟩
theorem SlP.at {w : World} {B : Nat} {p : Option Addr} {l r : List Peer} {q : Peer} (h : SlP w B p (l ++ q :: r)) : ∃ g off, p = some ⟨g, off, none⟩ ∧ g < B ∧ w.rangeAt g (off + l.length * 21) (pc q) ∧ Id20 q.2 := by
  obtain ⟨hi, h⟩ := h
  rcases h with h | ⟨g, off, e, hg, hr⟩
  · simp at h
  · refine ⟨g, off, e, hg, ?_, hi q (by simp)⟩
    rw [pcs_append] at hr
    have h2 := (rangeAt_append.1 hr).2
    rw [pcs_length fun x hx => hi x (by simp [hx])] at h2
    exact (rangeAt_append.1 (show w.rangeAt g (off + l.length * 21) (pc q ++ pcs r) from h2)).1
theorem SlP.tail {w : World} {B : Nat} {p : Option Addr} {r : List Peer} {q : Peer} {cap : Nat} (h : SlP w B p (q :: r)) (hc : r.length + 1 ≤ cap) : SlP w B (tl cap p) r := by
  obtain ⟨hi, h⟩ := h
  refine ⟨fun x hx => hi x (by simp [hx]), ?_⟩
  rcases h with h | ⟨g, off, e, hg, hr⟩
  · simp at h
  · by_cases c : cap = 1
    · left
      have : r.length = 0 := by omega
      exact List.length_eq_zero_iff.1 this
    · right
      refine ⟨g, off + 21, ?_, hg, ?_⟩
      · rw [tl, if_neg c, e, Option.map_some, Addr.add_mid]
      · have := (rangeAt_append.1 (show w.rangeAt g off (pc q ++ pcs r) from hr)).2
        rwa [pc_length (hi q (by simp)).1] at this
theorem SlP.init {w : World} {B : Nat} {p : Option Addr} {l : List Peer} {q : Peer} (h : SlP w B p (l ++ [q])) : SlP w B p l := by
  obtain ⟨hi, h⟩ := h
  refine ⟨fun x hx => hi x (by simp [hx]), ?_⟩
  rcases h with h | ⟨g, off, e, hg, hr⟩
  · simp at h
  · exact .inr ⟨g, off, e, hg, by rw [pcs_append] at hr; exact (rangeAt_append.1 hr).1⟩
theorem size37 : (Try.prog.info? 37).map (·.size) = some 1 := by kernel_rfl
/-- A slice goes into a field of a block. -/
theorem run_storeS {w : World} {g k : Nat} {q : Option Addr} {n c : Nat} {l : List Value} (hg : Blk w g l) (hk : k < l.length) :
    (storeVar 37 ⟨g, k, none⟩ (.slice q n c)).run Try.prog w = .ok () (w.setCell ⟨g, k, none⟩ (.slice q n c)) := by
  have hc : w.cell? ⟨g, k, none⟩ = some (l[k]'hk) := hg.cellAt k (List.getElem?_eq_getElem hk)
  have hf : w.frozen? ⟨g, k, none⟩ = false := by
    obtain ⟨t, hg⟩ := hg
    simp [World.frozen?, hg]
  simp [storeVar, run_size size37, Value.cells, storeCells, Addr.add, run_store_slice, stored, hc, hf]
theorem Blk.setCell {w : World} {g : Nat} {l : List Value} (h : Blk w g l) (k : Nat) (v : Value) : Blk (w.setCell ⟨g, k, none⟩ v) g (l.set k v) := by
  obtain ⟨t, h⟩ := h
  exact ⟨t, by rw [heap_setCell_same w g k _ t _ h, List.setIfInBounds_toArray]⟩
theorem wpl_storeS {ops : Array Oper} {rest : List Oper} {o : Oper} {a : Act} {w : World} {Q : Exit → Act → World → Prop} (hgd : o.guard = none) {x y : Operand} (ho : o.op = .store 37 x y) {g k : Nat} (hx : a.eval x = .pointer (some ⟨g, k, none⟩)) {q : Option Addr} {n c : Nat} (hy : a.eval y = .slice q n c)
    {l : List Value} (hg : Blk w g l) (hk : k < l.length)
    (h : ∀ w' : World, Blk w' g (l.set k (.slice q n c)) → (∀ B, B ≤ g → Below B w w') → (∀ j, j ≠ g → w'.heap[j]? = w.heap[j]?) → wpList Try.prog ops Q rest (a.put o.dst undef) w') : wpList Try.prog ops Q (o :: rest) a w :=
  wpList_plain hgd fun K hK => by
    have hh := hK _ _ (h (w.setCell ⟨g, k, none⟩ (.slice q n c)) (hg.setCell k _) (fun B hB => (Below.refl B w).setCell hB _) (fun j hj => heap_setCell_other w ⟨g, k, none⟩ j _ hj))
    have hs := run_storeS (q := q) (n := n) (c := c) hg hk
    unfold Oper.wp execOp
    simp only [ho]
    rw [hx, hy]
    simp only [Instr.storeAt, Instr.sureAddr, Sem.run_bind, Sem.run_pure, Result.andThen_ok, hs]
    exact hh
end Go.Proofs.Qxb6001692a
