import Derived.Test.Qxb6001692aZb
namespace Go.Proofs.Qxb6001692a
open Go.ChangeShapes Go.WideShapes Go.ChangeAt Go.RowKit
set_option linter.unusedVariables false

/-! ### A peer goes into the middle of a row -/
theorem Blk.setCells {g : Nat} : ∀ (vs pre old post : List Value) (w : World), old.length = vs.length → Blk w g (pre ++ (old ++ post)) → Blk (w.setCells g pre.length vs) g (pre ++ (vs ++ post))
  | [], pre, old, post, w, hl, h => by
    obtain rfl := List.length_eq_zero_iff.1 (by simpa using hl)
    exact h
  | v :: vs, pre, old, post, w, hl, h => by
    cases old with
    | nil => simp at hl
    | cons u old =>
      have h1 := h.setCell pre.length v
      rw [List.set_append_right _ _ (Nat.le_refl _), Nat.sub_self, List.cons_append, List.set_cons_zero] at h1
      have := Blk.setCells vs (pre ++ [v]) old post _ (by simpa using hl) (by simpa using h1)
      simpa [World.setCells] using this
theorem setCells_other {g : Nat} : ∀ (vs : List Value) (o : Nat) (w : World) (k : Nat), k ≠ g → (w.setCells g o vs).heap[k]? = w.heap[k]?
  | [], _, _, _, _ => rfl
  | v :: vs, o, w, k, hk => (setCells_other vs (o + 1) _ k hk).trans (heap_setCell_other w ⟨g, o, none⟩ k v hk)
theorem setCells_below {B g : Nat} (hB : B ≤ g) : ∀ (vs : List Value) (o : Nat) (w : World), Below B w (w.setCells g o vs)
  | [], _, w => Below.refl B w
  | v :: vs, o, w => ((Below.refl B w).setCell (p := ⟨g, o, none⟩) hB v).trans (setCells_below hB vs (o + 1) _)
theorem wpl_store39m {ops : Array Oper} {rest : List Oper} {o : Oper} {a : Act} {w : World} {Q : Exit → Act → World → Prop} (hgd : o.guard = none) (x y : Operand) (ho : o.op = .store 39 x y)
    (g : Nat) (pre post : List Value) (q p : Peer) (hx : a.eval x = .pointer (some ⟨g, pre.length, none⟩)) (hy : a.eval y = .agg (pc p).toArray) (hp : p.2.length = 20) (hq : q.2.length = 20) (hg : Blk w g (pre ++ (pc q ++ post)))
    (h : ∀ w' : World, Blk w' g (pre ++ (pc p ++ post)) → (∀ B, B ≤ g → Below B w w') → (∀ k, k ≠ g → w'.heap[k]? = w.heap[k]?) → wpList Try.prog ops Q rest (a.put o.dst undef) w') : wpList Try.prog ops Q (o :: rest) a w :=
  wpList_plain hgd fun K hK => by
    have hh := hK _ _ (h (w.setCells g pre.length (pc p)) (Blk.setCells (pc p) pre (pc q) post w (by rw [pc_length hp, pc_length hq]) hg) (fun B hB => setCells_below hB _ _ _) (fun k hk => setCells_other _ _ _ k hk))
    have ht : w.there g pre.length (pc p).toArray.size := by
      intro j hj
      rw [List.size_toArray, pc_length hp] at hj
      refine ⟨?_, ?_⟩
      · have hlt : pre.length + j < (pre ++ (pc q ++ post)).length := by simp [pc_length hq]; omega
        rw [hg.cellAt (pre.length + j) (List.getElem?_eq_getElem hlt)]; rfl
      · obtain ⟨t, hg⟩ := hg
        simp [World.frozen?, hg]
    have hr := run_storeVar_mid (P := Try.prog) w g pre.length 39 (pc p).toArray ht (by rw [List.size_toArray, pc_length hp]; exact size39) (pc_one p)
    unfold Oper.wp execOp
    simp only [ho]
    rw [hx, hy]
    simp only [Instr.storeAt, Instr.sureAddr, Sem.run_bind, Sem.run_pure, Result.andThen_ok, hr]
    exact hh

/-! ### The law's peers -/
def mkp (ss : List ByteArray) (s : Int) : List Peer := (List.range ss.length).map fun i => (ss.getD i ByteArray.empty, tg (i : Int) s)
theorem mkp_length (ss : List ByteArray) (s : Int) : (mkp ss s).length = ss.length := by simp [mkp]
theorem mkp_get (ss : List ByteArray) (s : Int) {k : Nat} (hk : k < ss.length) : (mkp ss s)[k]? = some (ss.getD k ByteArray.empty, tg (k : Int) s) := by
  unfold mkp
  rw [List.getElem?_map, List.getElem?_range hk]
  rfl
theorem mkp_id (ss : List ByteArray) {s : Int} (s0 : 0 ≤ s) (s1 : s ≤ 255) (h : ss.length ≤ 8192) : ∀ x ∈ mkp ss s, Id20 x.2 := by
  intro x hx
  obtain ⟨i, hi, rfl⟩ := List.mem_map.1 hx
  rw [List.mem_range] at hi
  exact tg_id (by omega) (by omega) s0 s1
def zp : Peer := (ByteArray.empty, zeros)
/-- The row of peers, filled up to k. -/
def pfill (ps : List Peer) (k : Nat) : List Value := pcs (ps.take k) ++ pcs (List.replicate (ps.length - k) zp)
theorem pfill_zero (ps : List Peer) : pfill ps 0 = pcs (List.replicate ps.length zp) := by simp [pfill, pcs]
theorem pfill_all (ps : List Peer) : pfill ps ps.length = pcs ps := by simp [pfill, pcs]
theorem pfill_at (ps : List Peer) (k : Nat) (hk : k < ps.length) : pfill ps k = pcs (ps.take k) ++ (pc zp ++ pcs (List.replicate (ps.length - (k + 1)) zp)) := by
  unfold pfill
  rw [show ps.length - k = (ps.length - (k + 1)) + 1 by omega, List.replicate_succ]
  rfl
theorem pfill_succ (ps : List Peer) (k : Nat) (p : Peer) (hk : ps[k]? = some p) : pcs (ps.take k) ++ (pc p ++ pcs (List.replicate (ps.length - (k + 1)) zp)) = pfill ps (k + 1) := by
  obtain ⟨hlt, rfl⟩ := List.getElem?_eq_some_iff.1 hk
  unfold pfill
  rw [List.take_succ_eq_append_getElem hlt, pcs_append, List.append_assoc]
  congr 2
  simp [pcs]
end Go.Proofs.Qxb6001692a
