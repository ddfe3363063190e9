import Derived.Test.Qxb6001692aNn
namespace Go.Proofs.Qxb6001692a
open Go.ChangeShapes Go.WideShapes Go.ChangeAt Go.RowKit
set_option linter.unusedVariables false

theorem idc_set (ys : List Int) (m : Nat) (v : Int) : (idc ys).setIfInBounds m (.int .u8 v) = idc (ys.set m v) := by
  simp [idc, List.map_set]
theorem Has.setByte {w : World} {g : Nat} {ys : List Int} (h : Has w g ys) (m : Nat) {v : Int} (hv : 0 ≤ v ∧ v ≤ 255) : Has (w.setCell ⟨g, m, none⟩ (.int .u8 v)) g (ys.set m v) := by
  obtain ⟨hi, t, h⟩ := h
  refine ⟨⟨by rw [List.length_set]; exact hi.1, hi.2.set m hv⟩, t, ?_⟩
  rw [heap_setCell_same w g m _ t _ h, idc_set]
/-- A byte goes into an identifier. -/
theorem wpl_storeByte {ops : Array Oper} {rest : List Oper} {o : Oper} {a : Act} {w : World} {Q : Exit → Act → World → Prop} (hgd : o.guard = none) (x y : Operand) (ho : o.op = .store 5 x y)
    (g m : Nat) (hx : a.eval x = .pointer (some ⟨g, m, none⟩)) (v : Int) (hy : a.eval y = .int .u8 v) (hv : 0 ≤ v ∧ v ≤ 255) (ys : List Int) (hg : Has w g ys) (hm : m < 20)
    (h : ∀ w' : World, Has w' g (ys.set m v) → (∀ B, B ≤ g → Below B w w') → (∀ k, k ≠ g → w'.heap[k]? = w.heap[k]?) → wpList Try.prog ops Q rest (a.put o.dst undef) w') : wpList Try.prog ops Q (o :: rest) a w :=
  wpList_plain hgd fun _ hK => by
    have hh := hK _ _ (h (w.setCell ⟨g, m, none⟩ (.int .u8 v)) (hg.setByte m hv) (fun B hB => (Below.refl B w).setCell hB _) (fun k hk => heap_setCell_other w ⟨g, m, none⟩ k _ hk))
    have hc := hg.cell m hm
    have hf := hg.free m
    have hs : (storeVar 5 ⟨g, m, none⟩ (.int .u8 v)).run Try.prog w = .ok () (w.setCell ⟨g, m, none⟩ (.int .u8 v)) := by
      have hsz : (sizeOf 5).run Try.prog w = .ok 1 w := by
        cases hq : Try.prog.info? 5 with
        | none => have := info5; simp [hq] at this
        | some j => have := info5; simp [hq] at this; simp [sizeOf, typeInfo, hq, this]
      simp [storeVar, hsz, Value.cells, storeCells, Addr.add, run_store_int, stored, hc, hf]
    unfold Oper.wp execOp
    simp only [ho]
    rw [hx, hy]
    simp only [Instr.storeAt, Instr.sureAddr, Sem.run_bind, Sem.run_pure, Result.andThen_ok, hs]
    exact hh

/-- tagID's answer. -/
def tg (i s : Int) : List Int := ((zeros.set 0 (i / 256)).set 1 (i % 256)).set 2 s
theorem tg_id {i s : Int} (h0 : 0 ≤ i) (h1 : i ≤ 65535) (s0 : 0 ≤ s) (s1 : s ≤ 255) : Id20 (tg i s) :=
  ⟨rfl, ((zeros_id.2.set 0 (by omega)).set 1 (by omega)).set 2 ⟨s0, s1⟩⟩
set_option maxHeartbeats 1000000 in
theorem tagID_any (i s : Int) (h0 : 0 ≤ i) (h1 : i ≤ 65535) (s0 : 0 ≤ s) (s1 : s ≤ 255) (w : World) :
    Calls Try.prog 18 #[.int .i64 i, .int .i64 s] w fun e w' => e = .returned (.agg (idc (tg i s))) ∧ Below w.heap.size w w' := by
  have ta : True := trivial
  have tb : True := trivial
  have t0 : True := trivial
  have t1 : True := trivial
  have t2 : True := trivial
  go_enter Try.func18, Try.ntmps18
  go_wp2_with (first
    | (have _t := ta; refine wpl_alloc26 rfl rfl ?_; intro gr wr hr hbr hlr; clear ta _t; simp only [Act.put, List.setIfInBounds_toArray, List.set_cons_zero, List.set_cons_succ])
    | (have _t := tb; refine wpl_alloc26 rfl rfl ?_; intro g w1 hs hb hl; clear tb _t; simp only [Act.put, List.setIfInBounds_toArray, List.set_cons_zero, List.set_cons_succ])
    | (have _t := t0; refine wpl_storeByte rfl _ _ rfl g 0 rfl (i / 256) rfl (by omega) zeros hs (by omega) ?_; intro w2 hs2 hb2 hk2; have hb2' := hb2 _ hl; clear t0 _t; simp only [Act.put])
    | (have _t := t1; refine wpl_storeByte rfl _ _ rfl g 1 rfl (i % 256) rfl (by omega) _ hs2 (by omega) ?_; intro w3 hs3 hb3 hk3; have hb3' := hb3 _ hl; clear t1 _t; simp only [Act.put])
    | (have _t := t2; refine wpl_storeByte rfl _ _ rfl g 2 rfl s rfl (by omega) _ hs3 (by omega) ?_; intro w4 hs4 hb4 hk4; have hb4' := hb4 _ hl; clear t2 _t; simp only [Act.put])
    | (refine wpl_store26 rfl _ _ rfl gr rfl (tg i s) rfl (tg_id h0 h1 s0 s1) zeros (Has.via (((hb.trans hb2').trans hb3').trans hb4') hr) ?_; intro w5 hs5 hb5 hk5; simp only [Act.put])
    | (refine wpl_load26 rfl _ rfl g rfl _ hs4 ?_; simp only [Act.put, List.setIfInBounds_toArray, List.set_cons_zero, List.set_cons_succ]))
  exact bodyPost_ret (v := .agg (idc (tg i s))) (results_id rfl _ rfl hs5) rfl ⟨rfl, ((((hbr.trans (hb.mono hbr.size)).trans (hb2 _ (Nat.le_trans hbr.size hl))).trans (hb3 _ (Nat.le_trans hbr.size hl))).trans (hb4 _ (Nat.le_trans hbr.size hl))).trans (hb5 _ hlr)⟩
end Go.Proofs.Qxb6001692a
