import Derived.Test.Qxb6001692aVars2
namespace Go.Proofs.Qxb6001692a
open Go.ChangeShapes Go.WideShapes Go.ChangeAt Go.RowKit
set_option linter.unusedVariables false

/-- A peer's cells: its address, its identifier. -/
def pc (p : ByteArray × List Int) : List Value := .string p.1 :: idl p.2
theorem pc_length {p : ByteArray × List Int} (h : p.2.length = 20) : (pc p).length = 21 := by simp [pc, idl_length, h]
theorem size39 : (Try.prog.info? 39).map (·.size) = some 21 := by kernel_rfl
theorem build39 {s : ByteArray} {A : List Int} (hA : A.length = 20) (w : World) : (Instr.build 39 #[(0, .string s), (1, .agg (idc A))]).run Try.prog w = .ok (.agg (pc (s, A)).toArray) w := by
  obtain ⟨a0, a1, a2, a3, a4, a5, a6, a7, a8, a9, a10, a11, a12, a13, a14, a15, a16, a17, a18, a19, rfl⟩ := list20 hA
  kernel_rfl
theorem zero39 : (Try.prog.info? 39).map (fun i => (i.zero, i.size)) = some (some (.agg (pc (ByteArray.empty, zeros)).toArray), 21) := by kernel_rfl
theorem run_zero39 (w : World) : (zeroValue 39).run Try.prog w = .ok (.agg (pc (ByteArray.empty, zeros)).toArray) w := (zero_of_info zero39).1 w
theorem pc_one (p : ByteArray × List Int) : (pc p).toArray.all (·.oneCell') = true :=
  all_oneCell_toArray (fun v hv => by
    rcases List.mem_cons.1 hv with h | h
    · subst h; rfl
    · obtain ⟨z, _, rfl⟩ := List.mem_map.1 h
      rfl)
theorem Blk.of_block {w w' : World} {g : Nat} {l : List Value} (h : Blk w g l) (e : w'.heap[g]? = w.heap[g]?) : Blk w' g l := by
  obtain ⟨t, h⟩ := h
  exact ⟨t, e.trans h⟩

/-- A new peer variable, zero. -/
theorem wpl_alloc39 {ops : Array Oper} {rest : List Oper} {o : Oper} {a : Act} {w : World} {Q : Exit → Act → World → Prop} (hgd : o.guard = none) (ho : o.op = .alloc 39)
    (h : ∀ (g : Nat) (w' : World), Blk w' g (pc (ByteArray.empty, zeros)) → Below w.heap.size w w' → w.heap.size ≤ g → wpList Try.prog ops Q rest (a.put o.dst (.pointer (some ⟨g, 0, none⟩))) w') : wpList Try.prog ops Q (o :: rest) a w :=
  wpList_plain hgd fun K hK => by
    have hh := hK _ _ (h w.heap.size (w.alloc (.cells (pc (ByteArray.empty, zeros)).toArray 39)) ⟨39, heap_alloc_last w _⟩ ((Below.refl _ _).alloc (Nat.le_refl _) _) (Nat.le_refl _))
    unfold Oper.wp execOp
    simp only [ho, Instr.alloc, Sem.run_bind, run_zero39, Result.andThen_ok]
    exact hh
/-- A whole peer goes into a variable of its own. -/
theorem wp_store39 {o : Oper} {a : Act} {w : World} {K : Act → World → Prop} {Q : Exit → Act → World → Prop} (x y : Operand) (ho : o.op = .store 39 x y)
    (g : Nat) (hx : a.eval x = .pointer (some ⟨g, 0, none⟩)) (p q : ByteArray × List Int) (hy : a.eval y = .agg (pc p).toArray) (hp : p.2.length = 20) (hq : q.2.length = 20) (hg : Blk w g (pc q))
    (h : ∀ w' : World, Blk w' g (pc p) → (∀ B, B ≤ g → Below B w w') → (∀ k, k ≠ g → w'.heap[k]? = w.heap[k]?) → K (a.put o.dst undef) w') : o.wp Try.prog a w K Q := by
  obtain ⟨t, hg⟩ := hg
  have hs : (pc q).toArray.size = (pc p).toArray.size := by simp [pc_length hp, pc_length hq]
  have hr := run_storeVar_row (P := Try.prog) w g t 39 (pc q).toArray (pc p).toArray hg (by rw [List.size_toArray, pc_length hp]; exact size39) hs (pc_one p)
  have hk : ∀ k, k ≠ g → (w.setRow g (pc p).toArray).heap[k]? = w.heap[k]? := fun k hk => setRow_other w g k _ (by omega)
  have hh := h (w.setRow g (pc p).toArray) ⟨t, setRow_heap w g _ _ t _ hg⟩ (fun B hB => ⟨rfl, rfl, rfl, by simp, fun k hk' => hk k (by omega)⟩) hk
  unfold Oper.wp execOp
  simp only [ho]
  rw [hx, hy]
  simp only [Instr.storeAt, Instr.sureAddr, Sem.run_bind, Sem.run_pure, Result.andThen_ok, hr]
  exact hh
theorem wpl_store39 {ops : Array Oper} {rest : List Oper} {o : Oper} {a : Act} {w : World} {Q : Exit → Act → World → Prop} (hgd : o.guard = none) (x y : Operand) (ho : o.op = .store 39 x y)
    (g : Nat) (hx : a.eval x = .pointer (some ⟨g, 0, none⟩)) (p q : ByteArray × List Int) (hy : a.eval y = .agg (pc p).toArray) (hp : p.2.length = 20) (hq : q.2.length = 20) (hg : Blk w g (pc q))
    (h : ∀ w' : World, Blk w' g (pc p) → (∀ B, B ≤ g → Below B w w') → (∀ k, k ≠ g → w'.heap[k]? = w.heap[k]?) → wpList Try.prog ops Q rest (a.put o.dst undef) w') : wpList Try.prog ops Q (o :: rest) a w :=
  wpList_plain hgd fun _ hK => wp_store39 x y ho g hx p q hy hp hq hg fun w' h1 h2 h3 => hK _ _ (h w' h1 h2 h3)
/-- A peer, out of its own variable as a result. -/
theorem results_peer {fn : Func} {q : Tmp} (h : fn.results = #[.cell q 39]) (tmps : Array Value) {w : World} {g : Nat} {p : ByteArray × List Int} (hp : p.2.length = 20)
    (ht : tmps.getD q undef = .pointer (some ⟨g, 0, none⟩)) (hg : Blk w g (pc p)) : (results fn tmps).run Try.prog w = .ok (.agg (pc p).toArray) w := by
  obtain ⟨t, hg⟩ := hg
  exact results_cell_row h tmps w g t _ (0, 0) _ ht hg Try.underlying39 rfl (by rw [List.size_toArray, pc_length hp]; exact size39)
theorem results_id {fn : Func} {p : Tmp} (h : fn.results = #[.cell p 26]) (tmps : Array Value) {w : World} {g : Nat} {ys : List Int}
    (hp : tmps.getD p undef = .pointer (some ⟨g, 0, none⟩)) (hg : Has w g ys) : (results fn tmps).run Try.prog w = .ok (.agg (idc ys)) w := by
  obtain ⟨hi, t, hg⟩ := hg
  exact results_cell_row h tmps w g t (idc ys) (0, 0) _ hp hg Try.underlying26 rfl (by rw [idc_size, hi.1]; exact size26)
theorem run_load39 {a : Act} {o : Oper} {w : World} (x : Operand) (ho : o.op = .load 39 x) (g off : Nat) (hx : a.eval x = .pointer (some ⟨g, off, none⟩)) (p : ByteArray × List Int) (hp : p.2.length = 20) (hg : w.rangeAt g off (pc p)) :
    (execOp a.eval o).run Try.prog w = .ok (.value (.agg (pc p).toArray)) w := by
  unfold execOp
  simp only [ho]
  rw [hx]
  simp only [Sem.run_bind, run_loadAt_mid w g off 39 (pc p) _ hg Try.underlying39 rfl (by rw [pc_length hp]; exact size39), Result.andThen_ok]
  rfl
theorem Blk.whole {w : World} {g : Nat} {l : List Value} (h : Blk w g l) : w.rangeAt g 0 l := by
  have : Blk w g ([] ++ (l ++ [])) := by simpa using h
  exact this.range

set_option maxHeartbeats 1000000 in
theorem makePeer_any (s : ByteArray) (A : List Int) (hA : Id20 A) (w : World) :
    Calls Try.prog 17 #[.string s, .agg (idc A)] w fun e w' => e = .returned (.agg (pc (s, A)).toArray) ∧ Below w.heap.size w w' := by
  go_enter Try.func17, Try.ntmps17
  go_wp2_with (first
    | (refine wpl_box rfl _ rfl _ rfl (by assumption) ?_; intro g w1 hs hb hl; simp only [Act.put, List.setIfInBounds_toArray, List.set_cons_zero, List.set_cons_succ])
    | (refine wpl_alloc39 rfl rfl ?_; intro g2 w2 hs2 hb2 hl2; simp only [Act.put, List.setIfInBounds_toArray, List.set_cons_zero, List.set_cons_succ])
    | (refine wpl_load26 rfl _ rfl _ rfl ?_ ?_ ?_; rotate_left; (focus ((repeat (first | assumption | (apply Has.via; focus assumption))); done)); simp only [Act.put, List.setIfInBounds_toArray, List.set_cons_zero, List.set_cons_succ])
    | (refine wpl_val rfl _ (run_build rfl ?_ (build39 (s := s) hA.1 _)) ?_; (focus (simp [Act.eval]; done)); simp only [Act.put, List.setIfInBounds_toArray, List.set_cons_zero, List.set_cons_succ])
    | (refine wpl_store39 rfl _ _ rfl g2 rfl (s, A) (ByteArray.empty, zeros) rfl hA.1 zeros_id.1 hs2 ?_; intro w3 hs3 hb3 hk3; simp only [Act.put]))
  exact bodyPost_ret (v := .agg (pc (s, A)).toArray) (results_peer rfl _ hA.1 rfl hs3) rfl ⟨rfl, (Below.chain hb hb2).trans (hb3 _ (Nat.le_trans hb.size hl2))⟩

theorem fa39_1 (g : Nat) (w : World) : (Instr.fieldAt 39 (.pointer (some ⟨g, 0, none⟩)) 1).run Try.prog w = .ok (.pointer (some ⟨g, 1, none⟩)) w := by kernel_rfl
theorem fa39_0 (g : Nat) (w : World) : (Instr.fieldAt 39 (.pointer (some ⟨g, 0, none⟩)) 0).run Try.prog w = .ok (.pointer (some ⟨g, 0, none⟩)) w := by kernel_rfl
set_option maxHeartbeats 1000000 in
theorem peerID_any (s : ByteArray) (A : List Int) (hA : Id20 A) (w : World) :
    Calls Try.prog 21 #[.agg (pc (s, A)).toArray] w fun e w' => e = .returned (.agg (idc A)) ∧ Below w.heap.size w w' := by
  go_enter Try.func21, Try.ntmps21
  go_wp2_with (first
    | (refine wpl_boxL rfl _ rfl (pc (s, A)) rfl ?_; intro g w1 hs hb hl; simp only [Act.put, List.setIfInBounds_toArray, List.set_cons_zero, List.set_cons_succ])
    | (refine wpl_alloc26 rfl rfl ?_; intro g2 w2 hs2 hb2 hl2; simp only [Act.put, List.setIfInBounds_toArray, List.set_cons_zero, List.set_cons_succ])
    | (refine wpl_val rfl _ (run_fieldAddr rfl rfl (fa39_1 g _)) ?_; simp only [Act.put, List.setIfInBounds_toArray, List.set_cons_zero, List.set_cons_succ])
    | (refine wpl_val rfl _ (run_load26_mid _ rfl g 1 rfl A hA ?_) ?_; (focus exact Blk.range (pre := [.string s]) (mid := idl A) (post := []) (by simpa [pc] using Blk.via hb2 hs)); simp only [Act.put, List.setIfInBounds_toArray, List.set_cons_zero, List.set_cons_succ])
    | (refine wpl_store26 rfl _ _ rfl g2 rfl A rfl hA zeros hs2 ?_; intro w3 hs3 hb3 hk3; simp only [Act.put]))
  exact bodyPost_ret (v := .agg (idc A)) (results_id rfl _ rfl hs3) rfl ⟨rfl, (Below.chain hb hb2).trans (hb3 _ (Nat.le_trans hb.size hl2))⟩
end Go.Proofs.Qxb6001692a
