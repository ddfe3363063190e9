import Derived.Test.Qxb6001692aIr
import Derived.Orders
import Derived.Deep.Quiet
namespace Go.Proofs.Qxb6001692a
open Go.ChangeShapes Go.WideShapes Go.ChangeAt Go.RowKit

/-! ### A region that draws its order, by an invariant -/
theorem ready_mem {md : Region.Mode} {ops : Array Oper} {listed : Array Bool} {i : Nat} (h : i ∈ Region.ready md ops listed) :
    i < ops.size ∧ listed.getD i true = false ∧ ∀ o, ops[i]? = some o → ∀ e ∈ o.after, Region.binds md e = true → listed.getD e.on false = true := by
  unfold Region.ready at h
  rw [List.mem_filter, List.mem_range, Bool.and_eq_true] at h
  obtain ⟨h1, h2, h3⟩ := h
  refine ⟨h1, by simpa using h2, fun o ho e he hb => ?_⟩
  rw [ho] at h3
  simp only [Option.map_some, Option.getD_some, Array.all_eq_true_iff_forall_mem] at h3
  have := h3 e he
  simpa [hb] using this

def unlisted (listed : Array Bool) : Nat := listed.toList.countP (fun b => !b)
theorem unlisted_set {listed : Array Bool} {i : Nat} (h : listed.getD i true = false) : unlisted (listed.setIfInBounds i true) + 1 = unlisted listed := by
  obtain ⟨l⟩ := listed
  have hi : i < l.length := by
    rcases Nat.lt_or_ge i l.length with g | g
    · exact g
    · rw [Array.getD_eq_getD_getElem?, List.getElem?_toArray, List.getElem?_eq_none g] at h; simp at h
  have hv : l[i] = false := by
    rw [Array.getD_eq_getD_getElem?, List.getElem?_toArray, List.getElem?_eq_getElem hi] at h; simpa using h
  unfold unlisted
  rw [List.setIfInBounds_toArray]
  show (l.set i true).countP _ + 1 = l.countP _
  rw [List.countP_set hi, hv]
  have : 0 < l.countP (fun b => !b) := List.countP_pos_iff.2 ⟨l[i], List.getElem_mem hi, by rw [hv]; rfl⟩
  simp
  omega
theorem unlisted_pos {listed : Array Bool} {i : Nat} (h : listed.getD i true = false) : 0 < unlisted listed := by
  have := unlisted_set h; omega

theorem wpAny_inv {P : Program} {md : Region.Mode} {ops : Array Oper} {Q : Exit → Act → World → Prop} (I : Array Bool → Act → World → Prop)
    (hend : ∀ listed a w, I listed a w → Region.ready md ops listed = [] → Q .normal a w)
    (hstep : ∀ listed a w i, I listed a w → i ∈ Region.ready md ops listed → wpOp P ops Q i (I (listed.setIfInBounds i true)) a w) :
    ∀ (fuel : Nat) (listed : Array Bool) (a : Act) (w : World), unlisted listed ≤ fuel → I listed a w → wpAny P md ops Q fuel listed a w
  | 0, listed, a, w, hf, hI => by
    have hr : Region.ready md ops listed = [] := by
      cases hr : Region.ready md ops listed with
      | nil => rfl
      | cons i l =>
        have := unlisted_pos (ready_mem (show i ∈ Region.ready md ops listed by rw [hr]; exact List.mem_cons_self ..)).2.1
        omega
    exact ⟨hr, hend listed a w hI hr⟩
  | fuel + 1, listed, a, w, hf, hI => by
    refine ⟨fun hr => hend listed a w hI hr, fun i hi => ?_⟩
    refine wpOp_mono (fun a' w' h => wpAny_inv I hend hstep fuel _ a' w' ?_ h) (hstep listed a w i hI hi)
    have := unlisted_set (ready_mem hi).2.1
    omega

/-- The region's law: an invariant that holds at the start, is kept by every operation that may come up, and gives at the end what is asked. -/
theorem wp_region_inv {P : Program} {ops : Array Oper} {Q : Exit → Act → World → Prop} {id : Nat} {a : Act} {w : World} (hm : P.follows .mixedOrders = true) (I : Array Bool → Act → World → Prop)
    (hstart : I (Array.replicate ops.size false) a w.drew)
    (hend : ∀ listed a w, I listed a w → Region.ready .any ops listed = [] → Q .normal a w)
    (hstep : ∀ listed a w i, I listed a w → i ∈ Region.ready .any ops listed → wpOp P ops Q i (I (listed.setIfInBounds i true)) a w) : (Code.region id ops true).wp P Q a w := by
  refine wp_region_any hm (wpAny_inv I hend hstep _ _ _ _ ?_ hstart)
  unfold unlisted
  have := List.countP_le_length (p := fun b : Bool => !b) (l := (Array.replicate ops.size false).toList)
  simpa using this

/-! ### A region that only reads and makes new memory: one walk, in the class of the worlds behind w0 -/
def Ext (w0 w : World) : Prop := Below w0.heap.size w0 w
theorem Has.ext {w0 w : World} {g : Nat} {xs : List Int} (h : Has w0 g xs) (e : Ext w0 w) : Has w g xs := h.below' e

/-- The lexical walk, shut (so that no tactic lays it open by itself). -/
structure WQ (P : Program) (ops : Array Oper) (w0 : World) (Q : Act → Prop) (l : List Oper) (a : Act) : Prop where
  out : wpQuiet P ops (Ext w0) Q l a

theorem wp_region_ext {id : Nat} {P : Program} {Q : Exit → Act → World → Prop} {a : Act} {w : World} {l : List Oper} (hm : P.follows .mixedOrders = true) (hB : Region.lexB .any l.toArray = true)
    (h : WQ P l.toArray w (fun a' => ∀ w', Ext w w' → Q .normal a' w') l a) : (Code.region id l.toArray true).wp P Q a w :=
  wp_region_quiet (C := Ext w) hm hB ⟨rfl, rfl, rfl, Nat.le_refl _, fun _ _ => rfl⟩ (by simpa using h.out)

section
variable {P : Program} {ops : Array Oper} {w0 : World} {Q : Act → Prop} {a : Act} {o : Oper} {rest : List Oper}
theorem wq_nil (h : Q a) : WQ P ops w0 Q [] a := ⟨h⟩
theorem wq_skip (hgd : Region.wanted o (yielded ops a.tmps) = false) (h : WQ P ops w0 Q rest (a.put o.dst undef)) : WQ P ops w0 Q (o :: rest) a := by
  refine ⟨?_⟩
  unfold wpQuiet; rw [if_neg (by rw [hgd]; decide)]; exact h.out
theorem wq_at (hgd : Region.wanted o (yielded ops a.tmps) = true) (v : Value) (hr : ∀ w, Ext w0 w → (execOp a.eval o).run P w = .ok (.value v) w) (h : WQ P ops w0 Q rest (a.put o.dst v)) : WQ P ops w0 Q (o :: rest) a := by
  refine ⟨?_⟩
  unfold wpQuiet; rw [if_pos hgd]
  exact ⟨v, fun w hw => by unfold Oper.quietAt; rw [hr w hw]; exact ⟨rfl, rfl⟩, h.out⟩
theorem wq_val (hgd : Region.wanted o (yielded ops a.tmps) = true) (v : Value) (hr : ∀ w, (execOp a.eval o).run P w = .ok (.value v) w) (h : WQ P ops w0 Q rest (a.put o.dst v)) : WQ P ops w0 Q (o :: rest) a :=
  wq_at hgd v (fun w _ => hr w) h
theorem wq_call (hgd : Region.wanted o (yielded ops a.tmps) = true) (v : Value) (f : FuncId) (args : Array Value) (hr : ∀ w, (execOp a.eval o).run P w = .ok (.enter f args) w)
    (hc : ∀ w, Ext w0 w → Calls P f args w fun e w' => e = .returned v ∧ Below w.heap.size w w') (h : WQ P ops w0 Q rest (a.put o.dst v)) : WQ P ops w0 Q (o :: rest) a := by
  refine ⟨?_⟩
  unfold wpQuiet; rw [if_pos hgd]
  exact ⟨v, fun w hw => by
    unfold Oper.quietAt; rw [hr w]
    exact ⟨rfl, (hc w hw).mono fun e w' ⟨he, hb⟩ => ⟨he, Below.chain hw hb⟩⟩, h.out⟩
end
theorem run_load26 {a : Act} {o : Oper} {w : World} (x : Operand) (ho : o.op = .load 26 x) (g : Nat) (hx : a.eval x = .pointer (some ⟨g, 0, none⟩)) (xs : List Int) (hg : Has w g xs) :
    (execOp a.eval o).run Try.prog w = .ok (.value (.agg (idc xs))) w := by
  obtain ⟨hi, t, hg⟩ := hg
  unfold execOp
  simp only [ho, hx, Instr.loadAt, Instr.sureAddr, Sem.run_bind, Sem.run_pure, Result.andThen_ok, run_loadVar_row w g t 26 (idc xs) (0, 0) _ hg Try.underlying26 rfl (by rw [idc_size, hi.1]; exact size26)]
theorem wq_load26 {ops : Array Oper} {w0 : World} {Q : Act → Prop} {a : Act} {o : Oper} {rest : List Oper} (hgd : Region.wanted o (yielded ops a.tmps) = true) (x : Operand) (ho : o.op = .load 26 x) (g : Nat) (hx : a.eval x = .pointer (some ⟨g, 0, none⟩)) (xs : List Int) (hg : Has w0 g xs)
    (h : WQ Try.prog ops w0 Q rest (a.put o.dst (.agg (idc xs)))) : WQ Try.prog ops w0 Q (o :: rest) a :=
  wq_at hgd _ (fun _ hw => run_load26 x ho g hx xs (hg.ext hw)) h
end Go.Proofs.Qxb6001692a
