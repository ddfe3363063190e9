import Derived.Test.Qxb6001692aHead2
import Derived.ChangeKeysEq
import Derived.Laws.StructEq
namespace Go.Proofs.Qxb6001692a
open Go.ChangeShapes Go.WideShapes Go.ChangeAt Go.RowKit

theorem info5 : (Try.prog.info? 5).map (·.size) = some 1 := by kernel_rfl
theorem run_part5 (xs : List Int) (hx : Id20 xs) (i : Nat) (hi : i < 20) (w : World) : (part 5 (idc xs) (i * 1)).run Try.prog w = .ok (.int .u8 (xs.getD i 0)) w := by
  have hg := idc_get xs i (by rw [hx.1]; exact hi)
  have ha : (isAgg 5).run Try.prog w = .ok false w := by
    unfold isAgg
    rw [Sem.run_bind, run_underlying Try.underlying5 w]
    rfl
  rw [Nat.mul_one]
  simp [part, ha, hg]
theorem run_eqItems (xs ys : List Int) (hx : Id20 xs) (hy : Id20 ys) (w : World) : ∀ is : List Nat, (∀ i ∈ is, i < 20) →
    (Op.eqItems 9999 5 1 (idc xs) (idc ys) is).run Try.prog w = .ok (is.all fun i => xs.getD i 0 == ys.getD i 0) w
  | [], _ => by simp [Op.eqItems]
  | i :: is, h => by
    have ih := run_eqItems xs ys hx hy w is (fun j hj => h j (List.mem_cons_of_mem _ hj))
    have h0 := h i (List.mem_cons_self ..)
    simp only [Op.eqItems, Sem.run_bind, run_part5 xs hx i h0, run_part5 ys hy i h0, Result.andThen_ok, run_equalIn_int w 9998 5 .u8 .u8 _ _ Try.underlying5]
    cases hc : (xs.getD i 0 == ys.getD i 0)
    · rw [List.all_cons, hc]; simp
    · rw [List.all_cons, hc]; simpa using ih
theorem all_eq (xs ys : List Int) (hx : Id20 xs) (hy : Id20 ys) : ((List.range 20).all fun i => xs.getD i 0 == ys.getD i 0) = decide (bv xs = bv ys) := by
  rw [Bool.eq_iff_iff, decide_eq_true_eq, List.all_eq_true]
  constructor
  · intro h
    have : xs = ys := by
      apply List.ext_getElem (by rw [hx.1, hy.1])
      intro i h1 h2
      have := h i (by rw [List.mem_range, ← hx.1]; exact h1)
      simpa [List.getD_eq_getElem?_getD, h1, h2] using this
    rw [this]
  · intro h
    have := bv_inj (by rw [hx.1, hy.1]) hx.2 hy.2 h
    subst this
    simp
theorem run_equal26 (xs ys : List Int) (hx : Id20 xs) (hy : Id20 ys) (w : World) : (Op.equalIn 10000 26 (.agg (idc xs)) (.agg (idc ys))).run Try.prog w = .ok (decide (bv xs = bv ys)) w := by
  cases hq : Try.prog.info? 5 with
  | none => have := info5; simp [hq] at this
  | some j =>
    rw [run_equalIn_array w 9999 (idc xs) (idc ys) Try.underlying26 hq]
    have hc : Try.prog.cellsOf 5 = 1 := by kernel_rfl
    rw [hc, run_eqItems xs ys hx hy w _ (fun i hi => List.mem_range.1 hi), all_eq xs ys hx hy]
theorem guard26 : Try.prog.eqGuardType Try.prog.depth 26 = false := by kernel_rfl

theorem wp_eql26 {o : Oper} {a : Act} {w : World} {K : Act → World → Prop} {Q : Exit → Act → World → Prop} (x y : Operand) (t' : TypeId) (ho : o.op = .binOp .eql 26 x y t')
    (xs ys : List Int) (hx : a.eval x = .agg (idc xs)) (hy : a.eval y = .agg (idc ys)) (ix : Id20 xs) (iy : Id20 ys)
    (h : K (a.put o.dst (.bool (decide (bv xs = bv ys)))) w) : o.wp Try.prog a w K Q := by
  unfold Oper.wp execOp
  simp only [ho]
  rw [hx, hy]
  simp only [Sem.run_bind, run_eqGuard_agg w .eql 26 x y _ _ guard26, Result.andThen_ok, run_eql_struct, run_equal26 xs ys ix iy]
  exact h
theorem wp_neq26 {o : Oper} {a : Act} {w : World} {K : Act → World → Prop} {Q : Exit → Act → World → Prop} (x y : Operand) (t' : TypeId) (ho : o.op = .binOp .neq 26 x y t')
    (xs ys : List Int) (hx : a.eval x = .agg (idc xs)) (hy : a.eval y = .agg (idc ys)) (ix : Id20 xs) (iy : Id20 ys)
    (h : K (a.put o.dst (.bool (!decide (bv xs = bv ys)))) w) : o.wp Try.prog a w K Q := by
  unfold Oper.wp execOp
  simp only [ho]
  rw [hx, hy]
  simp only [Sem.run_bind, run_eqGuard_agg w .neq 26 x y _ _ guard26, Result.andThen_ok, run_neq_struct, run_equal26 xs ys ix iy]
  exact h
/-- '==' and '!=' on identifiers, the answer known. -/
theorem wpl_eql26 {ops : Array Oper} {rest : List Oper} {o : Oper} {a : Act} {w : World} {Q : Exit → Act → World → Prop} (hgd : o.guard = none) (x y : Operand) (t' : TypeId) (ho : o.op = .binOp .eql 26 x y t')
    (xs ys : List Int) (hx : a.eval x = .agg (idc xs)) (hy : a.eval y = .agg (idc ys)) (ix : Id20 xs) (iy : Id20 ys) (b : Bool) (hb : decide (bv xs = bv ys) = b)
    (h : wpList Try.prog ops Q rest (a.put o.dst (.bool b)) w) : wpList Try.prog ops Q (o :: rest) a w :=
  wpList_plain hgd fun _ hK => wp_eql26 x y t' ho xs ys hx hy ix iy (hK _ _ (hb ▸ h))
theorem wpl_neq26 {ops : Array Oper} {rest : List Oper} {o : Oper} {a : Act} {w : World} {Q : Exit → Act → World → Prop} (hgd : o.guard = none) (x y : Operand) (t' : TypeId) (ho : o.op = .binOp .neq 26 x y t')
    (xs ys : List Int) (hx : a.eval x = .agg (idc xs)) (hy : a.eval y = .agg (idc ys)) (ix : Id20 xs) (iy : Id20 ys) (b : Bool) (hb : (!decide (bv xs = bv ys)) = b)
    (h : wpList Try.prog ops Q rest (a.put o.dst (.bool b)) w) : wpList Try.prog ops Q (o :: rest) a w :=
  wpList_plain hgd fun _ hK => wp_neq26 x y t' ho xs ys hx hy ix iy (hK _ _ (hb ▸ h))
/-- A guarded load, its guard met. -/
theorem wpl_load26g {ops : Array Oper} {rest : List Oper} {o : Oper} {a : Act} {w : World} {Q : Exit → Act → World → Prop} (hgd : Region.wanted o (yielded ops a.tmps) = true) (x : Operand) (ho : o.op = .load 26 x)
    (g : Nat) (hx : a.eval x = .pointer (some ⟨g, 0, none⟩)) (xs : List Int) (hg : Has w g xs)
    (h : wpList Try.prog ops Q rest (a.put o.dst (.agg (idc xs))) w) : wpList Try.prog ops Q (o :: rest) a w :=
  wpList_step fun K hK => by rw [if_pos hgd]; exact wp_load26 x ho g hx xs hg (hK _ _ h)
end Go.Proofs.Qxb6001692a
