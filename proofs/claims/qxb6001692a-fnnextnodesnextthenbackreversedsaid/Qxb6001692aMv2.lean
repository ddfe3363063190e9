import Derived.Test.Qxb6001692aMv
namespace Go.Proofs.Qxb6001692a
open Go.ChangeShapes Go.WideShapes Go.ChangeAt Go.RowKit
set_option linter.unusedVariables false

theorem run_call {P : Program} {a : Act} {o : Oper} {w : World} {f : FuncId} {fn : Func} {c : Call} {args : Array Value} (ho : o.op = .call c) (hc : c.callee = .value (.func f)) (ha : c.args.map a.eval = args)
    (hf : P.funcs[f]? = some fn) (hname : (fn.name == "runtime.NumGoroutine") = false) (hb : fn.body.isNone = false) : (execOp a.eval o).run P w = .ok (.enter f args) w := by
  unfold execOp
  have h1 : fn.name ≠ "runtime.NumGoroutine" := by simpa using hname
  simp only [ho, resolve, hc, ha]
  have he : a.eval (.func f) = .func (.func f) #[] #[] := rfl
  have h2 : ¬ fn.body = none := fun h => by simp [h] at hb
  simp [he, Deferred.ofValue, invoke, callFunc, hf, h1, h2]

section
variable {P : Program} {a : Act} {o : Oper} {w : World}
theorem run_move {x : Operand} {v : Value} (ho : o.op = .move x) (hx : a.eval x = v) : (execOp a.eval o).run P w = .ok (.value v) w := by
  unfold execOp; simp only [ho]; rw [hx]; rfl
theorem run_assign {x : Operand} {v : Value} (ho : o.op = .assign x) (hx : a.eval x = v) : (execOp a.eval o).run P w = .ok (.value v) w := by
  unfold execOp; simp only [ho]; rw [hx]; rfl
theorem run_pickT {c x y : Operand} {v : Value} (ho : o.op = .pick c x y) (hc : a.eval c = .bool true) (hx : a.eval x = v) : (execOp a.eval o).run P w = .ok (.value v) w := by
  unfold execOp; simp only [ho]; rw [hc, hx]; rfl
theorem run_pickF {c x y : Operand} {v : Value} (ho : o.op = .pick c x y) (hc : a.eval c = .bool false) (hy : a.eval y = v) : (execOp a.eval o).run P w = .ok (.value v) w := by
  unfold execOp; simp only [ho]; rw [hc, hy]; rfl
theorem run_not {x : Operand} {b b' : Bool} {t : TypeId} (ho : o.op = .unOp .not t x) (hx : a.eval x = .bool b) (e : (!b) = b') : (execOp a.eval o).run P w = .ok (.value (.bool b')) w := by
  subst e; unfold execOp; simp only [ho]; rw [hx]; rfl
theorem run_nilCheck {x : Operand} {p : Addr} (ho : o.op = .nilCheck x) (hx : a.eval x = .pointer (some p)) : (execOp a.eval o).run P w = .ok (.value (.pointer (some p))) w := by
  unfold execOp; simp only [ho]; rw [hx]; rfl
end

/-- What movedOn answers. -/
def mvB (k : Bool) (A U P I : Int) : Bool := k && (decide (dst A P < dst A U) && decide (dst A I ≤ dst A P))

set_option maxHeartbeats 2000000 in
theorem movedOn_nil (P Q I : List Int) (hP : Id20 P) (hQ : Id20 Q) (hI : Id20 I) (k : Bool) (w : World) :
    Calls Try.prog 26 #[.pointer none, .agg (plc P Q k).toArray, .agg (idc I)] w fun e w' => e = .returned (.bool false) ∧ Below w.heap.size w w' := by
  go_enter Try.func26, Try.ntmps26
  go_wp2_with (first
    | (refine wpl_boxL rfl _ rfl (plc P Q k) rfl ?_; intro gp wp hp hbp hlp; simp only [Act.put, List.setIfInBounds_toArray, List.set_cons_zero, List.set_cons_succ])
    | (refine wpl_box rfl _ rfl _ rfl (by assumption) ?_; intro g w' hs hb hl; simp only [Act.put, List.setIfInBounds_toArray, List.set_cons_zero, List.set_cons_succ]))
  have hp' := Blk.via hb hp
  refine wp_region_ext (by kernel_rfl) (by kernel_rfl) ?_
  refine wq_val rfl (.pointer none) (fun _ => run_move rfl rfl) ?_
  simp only [Act.put, List.setIfInBounds_toArray, List.set_cons_zero, List.set_cons_succ]
  refine wq_val rfl (.bool true) (fun _ => run_nilEq_none rfl rfl) ?_
  simp only [Act.put, List.setIfInBounds_toArray, List.set_cons_zero, List.set_cons_succ]
  refine wq_val rfl (.bool true) (fun _ => run_move rfl rfl) ?_
  simp only [Act.put, List.setIfInBounds_toArray, List.set_cons_zero, List.set_cons_succ]
  refine wq_skip (by kernel_rfl) ?_
  simp only [Act.put, List.setIfInBounds_toArray, List.set_cons_zero, List.set_cons_succ]
  refine wq_skip (by kernel_rfl) ?_
  simp only [Act.put, List.setIfInBounds_toArray, List.set_cons_zero, List.set_cons_succ]
  refine wq_skip (by kernel_rfl) ?_
  simp only [Act.put, List.setIfInBounds_toArray, List.set_cons_zero, List.set_cons_succ]
  refine wq_val rfl (.bool true) (fun _ => run_pickT rfl rfl rfl) ?_
  simp only [Act.put, List.setIfInBounds_toArray, List.set_cons_zero, List.set_cons_succ]
  refine wq_val rfl (.bool true) (fun _ => run_move rfl rfl) ?_
  simp only [Act.put, List.setIfInBounds_toArray, List.set_cons_zero, List.set_cons_succ]
  refine wq_skip (by kernel_rfl) ?_
  simp only [Act.put, List.setIfInBounds_toArray, List.set_cons_zero, List.set_cons_succ]
  refine wq_skip (by kernel_rfl) ?_
  simp only [Act.put, List.setIfInBounds_toArray, List.set_cons_zero, List.set_cons_succ]
  refine wq_skip (by kernel_rfl) ?_
  simp only [Act.put, List.setIfInBounds_toArray, List.set_cons_zero, List.set_cons_succ]
  refine wq_skip (by kernel_rfl) ?_
  simp only [Act.put, List.setIfInBounds_toArray, List.set_cons_zero, List.set_cons_succ]
  refine wq_skip (by kernel_rfl) ?_
  simp only [Act.put, List.setIfInBounds_toArray, List.set_cons_zero, List.set_cons_succ]
  refine wq_skip (by kernel_rfl) ?_
  simp only [Act.put, List.setIfInBounds_toArray, List.set_cons_zero, List.set_cons_succ]
  refine wq_skip (by kernel_rfl) ?_
  simp only [Act.put, List.setIfInBounds_toArray, List.set_cons_zero, List.set_cons_succ]
  refine wq_skip (by kernel_rfl) ?_
  simp only [Act.put, List.setIfInBounds_toArray, List.set_cons_zero, List.set_cons_succ]
  refine wq_skip (by kernel_rfl) ?_
  simp only [Act.put, List.setIfInBounds_toArray, List.set_cons_zero, List.set_cons_succ]
  refine wq_skip (by kernel_rfl) ?_
  simp only [Act.put, List.setIfInBounds_toArray, List.set_cons_zero, List.set_cons_succ]
  refine wq_skip (by kernel_rfl) ?_
  simp only [Act.put, List.setIfInBounds_toArray, List.set_cons_zero, List.set_cons_succ]
  refine wq_skip (by kernel_rfl) ?_
  simp only [Act.put, List.setIfInBounds_toArray, List.set_cons_zero, List.set_cons_succ]
  refine wq_skip (by kernel_rfl) ?_
  simp only [Act.put, List.setIfInBounds_toArray, List.set_cons_zero, List.set_cons_succ]
  refine wq_skip (by kernel_rfl) ?_
  simp only [Act.put, List.setIfInBounds_toArray, List.set_cons_zero, List.set_cons_succ]
  refine wq_skip (by kernel_rfl) ?_
  simp only [Act.put, List.setIfInBounds_toArray, List.set_cons_zero, List.set_cons_succ]
  refine wq_val rfl (.bool true) (fun _ => run_pickT rfl rfl rfl) ?_
  simp only [Act.put, List.setIfInBounds_toArray, List.set_cons_zero, List.set_cons_succ]
  refine wq_nil ?_
  intro w2 hb2
  have hb2' : Below w'.heap.size w' w2 := hb2
  go_wp2
  go_ret
  refine ⟨rfl, ?_⟩
  repeat (first | assumption | (apply Below.via; focus assumption))

set_option maxHeartbeats 2000000 in
theorem movedOn_unknown (P Q I : List Int) (hP : Id20 P) (hQ : Id20 Q) (hI : Id20 I) (gi : Nat) (w : World) :
    Calls Try.prog 26 #[.pointer (some ⟨gi, 0, none⟩), .agg (plc P Q false).toArray, .agg (idc I)] w fun e w' => e = .returned (.bool false) ∧ Below w.heap.size w w' := by
  go_enter Try.func26, Try.ntmps26
  go_wp2_with (first
    | (refine wpl_boxL rfl _ rfl (plc P Q false) rfl ?_; intro gp wp hp hbp hlp; simp only [Act.put, List.setIfInBounds_toArray, List.set_cons_zero, List.set_cons_succ])
    | (refine wpl_box rfl _ rfl _ rfl (by assumption) ?_; intro g w' hs hb hl; simp only [Act.put, List.setIfInBounds_toArray, List.set_cons_zero, List.set_cons_succ]))
  have hp' := Blk.via hb hp
  refine wp_region_ext (by kernel_rfl) (by kernel_rfl) ?_
  refine wq_val rfl (.pointer (some ⟨gi, 0, none⟩)) (fun _ => run_move rfl rfl) ?_
  simp only [Act.put, List.setIfInBounds_toArray, List.set_cons_zero, List.set_cons_succ]
  refine wq_val rfl (.bool false) (fun _ => run_nilEq_some rfl rfl) ?_
  simp only [Act.put, List.setIfInBounds_toArray, List.set_cons_zero, List.set_cons_succ]
  refine wq_val rfl (.bool false) (fun _ => run_move rfl rfl) ?_
  simp only [Act.put, List.setIfInBounds_toArray, List.set_cons_zero, List.set_cons_succ]
  refine wq_val rfl (.pointer (some ⟨gp, 81, none⟩)) (fun w => run_fieldAddr rfl rfl (fa58_3 gp w)) ?_
  simp only [Act.put, List.setIfInBounds_toArray, List.set_cons_zero, List.set_cons_succ]
  refine wq_at rfl (.bool false) (fun w hw => run_load4 rfl rfl (plc_known hP.1 hQ.1 (Blk.via hw hp'))) ?_
  simp only [Act.put, List.setIfInBounds_toArray, List.set_cons_zero, List.set_cons_succ]
  refine wq_val rfl (.bool true) (fun _ => run_not rfl rfl rfl) ?_
  simp only [Act.put, List.setIfInBounds_toArray, List.set_cons_zero, List.set_cons_succ]
  refine wq_val rfl (.bool true) (fun _ => run_pickF rfl rfl rfl) ?_
  simp only [Act.put, List.setIfInBounds_toArray, List.set_cons_zero, List.set_cons_succ]
  refine wq_val rfl (.bool true) (fun _ => run_move rfl rfl) ?_
  simp only [Act.put, List.setIfInBounds_toArray, List.set_cons_zero, List.set_cons_succ]
  refine wq_skip (by kernel_rfl) ?_
  simp only [Act.put, List.setIfInBounds_toArray, List.set_cons_zero, List.set_cons_succ]
  refine wq_skip (by kernel_rfl) ?_
  simp only [Act.put, List.setIfInBounds_toArray, List.set_cons_zero, List.set_cons_succ]
  refine wq_skip (by kernel_rfl) ?_
  simp only [Act.put, List.setIfInBounds_toArray, List.set_cons_zero, List.set_cons_succ]
  refine wq_skip (by kernel_rfl) ?_
  simp only [Act.put, List.setIfInBounds_toArray, List.set_cons_zero, List.set_cons_succ]
  refine wq_skip (by kernel_rfl) ?_
  simp only [Act.put, List.setIfInBounds_toArray, List.set_cons_zero, List.set_cons_succ]
  refine wq_skip (by kernel_rfl) ?_
  simp only [Act.put, List.setIfInBounds_toArray, List.set_cons_zero, List.set_cons_succ]
  refine wq_skip (by kernel_rfl) ?_
  simp only [Act.put, List.setIfInBounds_toArray, List.set_cons_zero, List.set_cons_succ]
  refine wq_skip (by kernel_rfl) ?_
  simp only [Act.put, List.setIfInBounds_toArray, List.set_cons_zero, List.set_cons_succ]
  refine wq_skip (by kernel_rfl) ?_
  simp only [Act.put, List.setIfInBounds_toArray, List.set_cons_zero, List.set_cons_succ]
  refine wq_skip (by kernel_rfl) ?_
  simp only [Act.put, List.setIfInBounds_toArray, List.set_cons_zero, List.set_cons_succ]
  refine wq_skip (by kernel_rfl) ?_
  simp only [Act.put, List.setIfInBounds_toArray, List.set_cons_zero, List.set_cons_succ]
  refine wq_skip (by kernel_rfl) ?_
  simp only [Act.put, List.setIfInBounds_toArray, List.set_cons_zero, List.set_cons_succ]
  refine wq_skip (by kernel_rfl) ?_
  simp only [Act.put, List.setIfInBounds_toArray, List.set_cons_zero, List.set_cons_succ]
  refine wq_skip (by kernel_rfl) ?_
  simp only [Act.put, List.setIfInBounds_toArray, List.set_cons_zero, List.set_cons_succ]
  refine wq_skip (by kernel_rfl) ?_
  simp only [Act.put, List.setIfInBounds_toArray, List.set_cons_zero, List.set_cons_succ]
  refine wq_val rfl (.bool true) (fun _ => run_pickT rfl rfl rfl) ?_
  simp only [Act.put, List.setIfInBounds_toArray, List.set_cons_zero, List.set_cons_succ]
  refine wq_nil ?_
  intro w2 hb2
  have hb2' : Below w'.heap.size w' w2 := hb2
  go_wp2
  go_ret
  refine ⟨rfl, ?_⟩
  repeat (first | assumption | (apply Below.via; focus assumption))

set_option maxHeartbeats 2000000 in
theorem movedOn_out (P Q I A U : List Int) (hP : Id20 P) (hQ : Id20 Q) (hI : Id20 I) (hA : Id20 A) (hU : Id20 U) (gi : Nat) (w : World) (hgi : Blk w gi (inc A U)) (hbet : decide (dst (bv A) (bv P) < dst (bv A) (bv U)) = false) :
    Calls Try.prog 26 #[.pointer (some ⟨gi, 0, none⟩), .agg (plc P Q true).toArray, .agg (idc I)] w fun e w' => e = .returned (.bool false) ∧ Below w.heap.size w w' := by
  go_enter Try.func26, Try.ntmps26
  go_wp2_with (first
    | (refine wpl_boxL rfl _ rfl (plc P Q true) rfl ?_; intro gp wp hp hbp hlp; simp only [Act.put, List.setIfInBounds_toArray, List.set_cons_zero, List.set_cons_succ])
    | (refine wpl_box rfl _ rfl _ rfl (by assumption) ?_; intro g w' hs hb hl; simp only [Act.put, List.setIfInBounds_toArray, List.set_cons_zero, List.set_cons_succ]))
  have hp' := Blk.via hb hp
  refine wp_region_ext (by kernel_rfl) (by kernel_rfl) ?_
  have hi' := Blk.via hb (Blk.via hbp hgi)
  refine wq_val rfl (.pointer (some ⟨gi, 0, none⟩)) (fun _ => run_move rfl rfl) ?_
  simp only [Act.put, List.setIfInBounds_toArray, List.set_cons_zero, List.set_cons_succ]
  refine wq_val rfl (.bool false) (fun _ => run_nilEq_some rfl rfl) ?_
  simp only [Act.put, List.setIfInBounds_toArray, List.set_cons_zero, List.set_cons_succ]
  refine wq_val rfl (.bool false) (fun _ => run_move rfl rfl) ?_
  simp only [Act.put, List.setIfInBounds_toArray, List.set_cons_zero, List.set_cons_succ]
  refine wq_val rfl (.pointer (some ⟨gp, 81, none⟩)) (fun w => run_fieldAddr rfl rfl (fa58_3 gp w)) ?_
  simp only [Act.put, List.setIfInBounds_toArray, List.set_cons_zero, List.set_cons_succ]
  refine wq_at rfl (.bool true) (fun w hw => run_load4 rfl rfl (plc_known hP.1 hQ.1 (Blk.via hw hp'))) ?_
  simp only [Act.put, List.setIfInBounds_toArray, List.set_cons_zero, List.set_cons_succ]
  refine wq_val rfl (.bool false) (fun _ => run_not rfl rfl rfl) ?_
  simp only [Act.put, List.setIfInBounds_toArray, List.set_cons_zero, List.set_cons_succ]
  refine wq_val rfl (.bool false) (fun _ => run_pickF rfl rfl rfl) ?_
  simp only [Act.put, List.setIfInBounds_toArray, List.set_cons_zero, List.set_cons_succ]
  refine wq_val rfl (.bool false) (fun _ => run_move rfl rfl) ?_
  simp only [Act.put, List.setIfInBounds_toArray, List.set_cons_zero, List.set_cons_succ]
  refine wq_val rfl (.pointer (some ⟨gp, 41, none⟩)) (fun w => run_fieldAddr rfl rfl (fa58_2 gp w)) ?_
  simp only [Act.put, List.setIfInBounds_toArray, List.set_cons_zero, List.set_cons_succ]
  refine wq_val rfl (.pointer (some ⟨gp, 41, none⟩)) (fun w => run_fieldAddr rfl rfl (fa56_0 gp 41 w)) ?_
  simp only [Act.put, List.setIfInBounds_toArray, List.set_cons_zero, List.set_cons_succ]
  refine wq_at rfl (.agg (idc P)) (fun w hw => run_load26_mid _ rfl gp 41 rfl P hP (plc_after (Blk.via hw hp'))) ?_
  simp only [Act.put, List.setIfInBounds_toArray, List.set_cons_zero, List.set_cons_succ]
  refine wq_val rfl (.pointer (some ⟨gi, 0, none⟩)) (fun _ => run_move rfl rfl) ?_
  simp only [Act.put, List.setIfInBounds_toArray, List.set_cons_zero, List.set_cons_succ]
  refine wq_val rfl (.pointer (some ⟨gi, 0, none⟩)) (fun _ => run_nilCheck rfl rfl) ?_
  simp only [Act.put, List.setIfInBounds_toArray, List.set_cons_zero, List.set_cons_succ]
  refine wq_val rfl (.pointer (some ⟨gi, 40, none⟩)) (fun w => run_fieldAddr rfl rfl (fa61_1 gi w)) ?_
  simp only [Act.put, List.setIfInBounds_toArray, List.set_cons_zero, List.set_cons_succ]
  refine wq_val rfl (.pointer (some ⟨gi, 40, none⟩)) (fun w => run_fieldAddr rfl rfl (fa56_0 gi 40 w)) ?_
  simp only [Act.put, List.setIfInBounds_toArray, List.set_cons_zero, List.set_cons_succ]
  refine wq_at rfl (.agg (idc A)) (fun w hw => run_load26_mid _ rfl gi 40 rfl A hA (inc_after (Blk.via hw hi'))) ?_
  simp only [Act.put, List.setIfInBounds_toArray, List.set_cons_zero, List.set_cons_succ]
  refine wq_val rfl (.pointer (some ⟨gi, 0, none⟩)) (fun _ => run_move rfl rfl) ?_
  simp only [Act.put, List.setIfInBounds_toArray, List.set_cons_zero, List.set_cons_succ]
  refine wq_val rfl (.pointer (some ⟨gi, 0, none⟩)) (fun _ => run_nilCheck rfl rfl) ?_
  simp only [Act.put, List.setIfInBounds_toArray, List.set_cons_zero, List.set_cons_succ]
  refine wq_val rfl (.pointer (some ⟨gi, 40, none⟩)) (fun w => run_fieldAddr rfl rfl (fa61_1 gi w)) ?_
  simp only [Act.put, List.setIfInBounds_toArray, List.set_cons_zero, List.set_cons_succ]
  refine wq_val rfl (.pointer (some ⟨gi, 60, none⟩)) (fun w => run_fieldAddr rfl rfl (fa56_1 gi 40 w)) ?_
  simp only [Act.put, List.setIfInBounds_toArray, List.set_cons_zero, List.set_cons_succ]
  refine wq_at rfl (.agg (idc U)) (fun w hw => run_load26_mid _ rfl gi 60 rfl U hU (inc_upTo hA.1 (Blk.via hw hi'))) ?_
  simp only [Act.put, List.setIfInBounds_toArray, List.set_cons_zero, List.set_cons_succ]
  refine wq_call rfl (.bool false) 32 #[.agg (idc P), .agg (idc A), .agg (idc U)] (fun _ => run_call rfl rfl (by simp [Act.eval]) Try.func32 (by kernel_rfl) (by kernel_rfl)) (fun w _ => by have := between_any P A U hP hA hU w; rw [hbet] at this; exact this) ?_
  simp only [Act.put, List.setIfInBounds_toArray, List.set_cons_zero, List.set_cons_succ]
  refine wq_val rfl (.bool true) (fun _ => run_not rfl rfl rfl) ?_
  simp only [Act.put, List.setIfInBounds_toArray, List.set_cons_zero, List.set_cons_succ]
  refine wq_val rfl (.bool true) (fun _ => run_pickF rfl rfl rfl) ?_
  simp only [Act.put, List.setIfInBounds_toArray, List.set_cons_zero, List.set_cons_succ]
  refine wq_nil ?_
  intro w2 hb2
  have hb2' : Below w'.heap.size w' w2 := hb2
  go_wp2
  go_ret
  refine ⟨rfl, ?_⟩
  repeat (first | assumption | (apply Below.via; focus assumption))

set_option maxHeartbeats 2000000 in
theorem movedOn_in (P Q I A U : List Int) (hP : Id20 P) (hQ : Id20 Q) (hI : Id20 I) (hA : Id20 A) (hU : Id20 U) (gi : Nat) (w : World) (hgi : Blk w gi (inc A U)) (hbet : decide (dst (bv A) (bv P) < dst (bv A) (bv U)) = true) :
    Calls Try.prog 26 #[.pointer (some ⟨gi, 0, none⟩), .agg (plc P Q true).toArray, .agg (idc I)] w fun e w' => e = .returned (.bool (decide (dst (bv A) (bv I) ≤ dst (bv A) (bv P)))) ∧ Below w.heap.size w w' := by
  go_enter Try.func26, Try.ntmps26
  go_wp2_with (first
    | (refine wpl_boxL rfl _ rfl (plc P Q true) rfl ?_; intro gp wp hp hbp hlp; simp only [Act.put, List.setIfInBounds_toArray, List.set_cons_zero, List.set_cons_succ])
    | (refine wpl_box rfl _ rfl _ rfl (by assumption) ?_; intro g w' hs hb hl; simp only [Act.put, List.setIfInBounds_toArray, List.set_cons_zero, List.set_cons_succ]))
  have hp' := Blk.via hb hp
  refine wp_region_ext (by kernel_rfl) (by kernel_rfl) ?_
  have hi' := Blk.via hb (Blk.via hbp hgi)
  refine wq_val rfl (.pointer (some ⟨gi, 0, none⟩)) (fun _ => run_move rfl rfl) ?_
  simp only [Act.put, List.setIfInBounds_toArray, List.set_cons_zero, List.set_cons_succ]
  refine wq_val rfl (.bool false) (fun _ => run_nilEq_some rfl rfl) ?_
  simp only [Act.put, List.setIfInBounds_toArray, List.set_cons_zero, List.set_cons_succ]
  refine wq_val rfl (.bool false) (fun _ => run_move rfl rfl) ?_
  simp only [Act.put, List.setIfInBounds_toArray, List.set_cons_zero, List.set_cons_succ]
  refine wq_val rfl (.pointer (some ⟨gp, 81, none⟩)) (fun w => run_fieldAddr rfl rfl (fa58_3 gp w)) ?_
  simp only [Act.put, List.setIfInBounds_toArray, List.set_cons_zero, List.set_cons_succ]
  refine wq_at rfl (.bool true) (fun w hw => run_load4 rfl rfl (plc_known hP.1 hQ.1 (Blk.via hw hp'))) ?_
  simp only [Act.put, List.setIfInBounds_toArray, List.set_cons_zero, List.set_cons_succ]
  refine wq_val rfl (.bool false) (fun _ => run_not rfl rfl rfl) ?_
  simp only [Act.put, List.setIfInBounds_toArray, List.set_cons_zero, List.set_cons_succ]
  refine wq_val rfl (.bool false) (fun _ => run_pickF rfl rfl rfl) ?_
  simp only [Act.put, List.setIfInBounds_toArray, List.set_cons_zero, List.set_cons_succ]
  refine wq_val rfl (.bool false) (fun _ => run_move rfl rfl) ?_
  simp only [Act.put, List.setIfInBounds_toArray, List.set_cons_zero, List.set_cons_succ]
  refine wq_val rfl (.pointer (some ⟨gp, 41, none⟩)) (fun w => run_fieldAddr rfl rfl (fa58_2 gp w)) ?_
  simp only [Act.put, List.setIfInBounds_toArray, List.set_cons_zero, List.set_cons_succ]
  refine wq_val rfl (.pointer (some ⟨gp, 41, none⟩)) (fun w => run_fieldAddr rfl rfl (fa56_0 gp 41 w)) ?_
  simp only [Act.put, List.setIfInBounds_toArray, List.set_cons_zero, List.set_cons_succ]
  refine wq_at rfl (.agg (idc P)) (fun w hw => run_load26_mid _ rfl gp 41 rfl P hP (plc_after (Blk.via hw hp'))) ?_
  simp only [Act.put, List.setIfInBounds_toArray, List.set_cons_zero, List.set_cons_succ]
  refine wq_val rfl (.pointer (some ⟨gi, 0, none⟩)) (fun _ => run_move rfl rfl) ?_
  simp only [Act.put, List.setIfInBounds_toArray, List.set_cons_zero, List.set_cons_succ]
  refine wq_val rfl (.pointer (some ⟨gi, 0, none⟩)) (fun _ => run_nilCheck rfl rfl) ?_
  simp only [Act.put, List.setIfInBounds_toArray, List.set_cons_zero, List.set_cons_succ]
  refine wq_val rfl (.pointer (some ⟨gi, 40, none⟩)) (fun w => run_fieldAddr rfl rfl (fa61_1 gi w)) ?_
  simp only [Act.put, List.setIfInBounds_toArray, List.set_cons_zero, List.set_cons_succ]
  refine wq_val rfl (.pointer (some ⟨gi, 40, none⟩)) (fun w => run_fieldAddr rfl rfl (fa56_0 gi 40 w)) ?_
  simp only [Act.put, List.setIfInBounds_toArray, List.set_cons_zero, List.set_cons_succ]
  refine wq_at rfl (.agg (idc A)) (fun w hw => run_load26_mid _ rfl gi 40 rfl A hA (inc_after (Blk.via hw hi'))) ?_
  simp only [Act.put, List.setIfInBounds_toArray, List.set_cons_zero, List.set_cons_succ]
  refine wq_val rfl (.pointer (some ⟨gi, 0, none⟩)) (fun _ => run_move rfl rfl) ?_
  simp only [Act.put, List.setIfInBounds_toArray, List.set_cons_zero, List.set_cons_succ]
  refine wq_val rfl (.pointer (some ⟨gi, 0, none⟩)) (fun _ => run_nilCheck rfl rfl) ?_
  simp only [Act.put, List.setIfInBounds_toArray, List.set_cons_zero, List.set_cons_succ]
  refine wq_val rfl (.pointer (some ⟨gi, 40, none⟩)) (fun w => run_fieldAddr rfl rfl (fa61_1 gi w)) ?_
  simp only [Act.put, List.setIfInBounds_toArray, List.set_cons_zero, List.set_cons_succ]
  refine wq_val rfl (.pointer (some ⟨gi, 60, none⟩)) (fun w => run_fieldAddr rfl rfl (fa56_1 gi 40 w)) ?_
  simp only [Act.put, List.setIfInBounds_toArray, List.set_cons_zero, List.set_cons_succ]
  refine wq_at rfl (.agg (idc U)) (fun w hw => run_load26_mid _ rfl gi 60 rfl U hU (inc_upTo hA.1 (Blk.via hw hi'))) ?_
  simp only [Act.put, List.setIfInBounds_toArray, List.set_cons_zero, List.set_cons_succ]
  refine wq_call rfl (.bool true) 32 #[.agg (idc P), .agg (idc A), .agg (idc U)] (fun _ => run_call rfl rfl (by simp [Act.eval]) Try.func32 (by kernel_rfl) (by kernel_rfl)) (fun w _ => by have := between_any P A U hP hA hU w; rw [hbet] at this; exact this) ?_
  simp only [Act.put, List.setIfInBounds_toArray, List.set_cons_zero, List.set_cons_succ]
  refine wq_val rfl (.bool false) (fun _ => run_not rfl rfl rfl) ?_
  simp only [Act.put, List.setIfInBounds_toArray, List.set_cons_zero, List.set_cons_succ]
  refine wq_val rfl (.bool false) (fun _ => run_pickF rfl rfl rfl) ?_
  simp only [Act.put, List.setIfInBounds_toArray, List.set_cons_zero, List.set_cons_succ]
  refine wq_nil ?_
  intro w2 hb2
  have hb2' : Below w'.heap.size w' w2 := hb2
  go_wp2
  have hs2 := hs.below' hb2'
  have hp2 := Blk.via hb2' hp'
  have hi2 := Blk.via hb2' hi'
  refine wp_region_ext (by kernel_rfl) (by kernel_rfl) ?_
  refine wq_load26 rfl _ rfl g rfl I hs2 ?_
  simp only [Act.put, List.setIfInBounds_toArray, List.set_cons_zero, List.set_cons_succ]
  refine wq_val rfl (.pointer (some ⟨gi, 0, none⟩)) (fun _ => run_move rfl rfl) ?_
  simp only [Act.put, List.setIfInBounds_toArray, List.set_cons_zero, List.set_cons_succ]
  refine wq_val rfl (.pointer (some ⟨gi, 0, none⟩)) (fun _ => run_nilCheck rfl rfl) ?_
  simp only [Act.put, List.setIfInBounds_toArray, List.set_cons_zero, List.set_cons_succ]
  refine wq_val rfl (.pointer (some ⟨gi, 40, none⟩)) (fun w => run_fieldAddr rfl rfl (fa61_1 gi w)) ?_
  simp only [Act.put, List.setIfInBounds_toArray, List.set_cons_zero, List.set_cons_succ]
  refine wq_val rfl (.pointer (some ⟨gi, 40, none⟩)) (fun w => run_fieldAddr rfl rfl (fa56_0 gi 40 w)) ?_
  simp only [Act.put, List.setIfInBounds_toArray, List.set_cons_zero, List.set_cons_succ]
  refine wq_at rfl (.agg (idc A)) (fun w hw => run_load26_mid _ rfl gi 40 rfl A hA (inc_after (Blk.via hw hi2))) ?_
  simp only [Act.put, List.setIfInBounds_toArray, List.set_cons_zero, List.set_cons_succ]
  refine wq_val rfl (.pointer (some ⟨gp, 41, none⟩)) (fun w => run_fieldAddr rfl rfl (fa58_2 gp w)) ?_
  simp only [Act.put, List.setIfInBounds_toArray, List.set_cons_zero, List.set_cons_succ]
  refine wq_val rfl (.pointer (some ⟨gp, 41, none⟩)) (fun w => run_fieldAddr rfl rfl (fa56_0 gp 41 w)) ?_
  simp only [Act.put, List.setIfInBounds_toArray, List.set_cons_zero, List.set_cons_succ]
  refine wq_at rfl (.agg (idc P)) (fun w hw => run_load26_mid _ rfl gp 41 rfl P hP (plc_after (Blk.via hw hp2))) ?_
  simp only [Act.put, List.setIfInBounds_toArray, List.set_cons_zero, List.set_cons_succ]
  refine wq_call rfl (.bool (decide (dst (bv A) (bv I) ≤ dst (bv A) (bv P)))) 23 #[.agg (idc I), .agg (idc A), .agg (idc P)] (fun _ => run_call rfl rfl (by simp [Act.eval]) Try.func23 (by kernel_rfl) (by kernel_rfl)) (fun w _ => inRange_any I A P hI hA hP w) ?_
  simp only [Act.put, List.setIfInBounds_toArray, List.set_cons_zero, List.set_cons_succ]
  refine wq_val rfl (.bool (decide (dst (bv A) (bv I) ≤ dst (bv A) (bv P)))) (fun _ => run_assign rfl rfl) ?_
  simp only [Act.put, List.setIfInBounds_toArray, List.set_cons_zero, List.set_cons_succ]
  refine wq_nil ?_
  intro w3 hb3
  have hb3' : Below w2.heap.size w2 w3 := hb3
  go_wp2
  go_ret
  refine ⟨rfl, ?_⟩
  repeat (first | assumption | (apply Below.via; focus assumption))
end Go.Proofs.Qxb6001692a
