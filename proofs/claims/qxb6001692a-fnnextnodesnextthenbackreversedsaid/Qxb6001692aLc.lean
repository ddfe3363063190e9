import Derived.Test.Qxb6001692aLa
namespace Go.Proofs.Qxb6001692a
open Go.ChangeShapes Go.WideShapes Go.ChangeAt Go.RowKit

theorem mkp_fst (ss : List ByteArray) (s : Int) : (mkp ss s).map (·.1) = ss := by
  apply List.ext_getElem?
  intro i
  rw [List.getElem?_map]
  rcases Nat.lt_or_ge i ss.length with h | h
  · rw [mkp_get ss s h, List.getElem?_eq_getElem h]
    simp [List.getD_eq_getElem?_getD, List.getElem?_eq_getElem h]
  · rw [List.getElem?_eq_none (by rw [mkp_length]; exact h), List.getElem?_eq_none h]; rfl
/-- What nextNodes gives. -/
def gotP (ss ts : List ByteArray) : List Peer := mkp ss 0 ++ (mkp ts 1).reverse
theorem gotP_length (ss ts : List ByteArray) : (gotP ss ts).length = ss.length + ts.length := by simp [gotP, mkp_length]
theorem gotP_fst (ss ts : List ByteArray) : (gotP ss ts).map (·.1) = ss ++ ts.reverse := by simp [gotP, mkp_fst, List.map_reverse]
theorem gotP_id (ss ts : List ByteArray) (hs : ss.length ≤ 4096) (ht : ts.length ≤ 4096) : ∀ x ∈ gotP ss ts, Id20 x.2 := by
  intro x hx
  rcases List.mem_append.1 hx with h | h
  · exact mkp_id ss (s := 0) (by omega) (by omega) (by omega) x h
  · exact mkp_id ts (s := 1) (by omega) (by omega) (by omega) x (List.mem_reverse.1 h)
theorem gotP_front (ss ts : List ByteArray) {k : Nat} (hk : k < ss.length) : (gotP ss ts)[k]? = some (ss.getD k ByteArray.empty, tg (k : Int) 0) := by
  unfold gotP
  rw [List.getElem?_append_left (by rw [mkp_length]; exact hk), mkp_get ss 0 hk]
theorem gotP_back (ss ts : List ByteArray) {j : Nat} (hj : j < ts.length) : (gotP ss ts)[ss.length + j]? = some (ts.getD (ts.length - 1 - j) ByteArray.empty, tg ((ts.length - 1 - j : Nat) : Int) 1) := by
  unfold gotP
  rw [List.getElem?_append_right (by rw [mkp_length]; omega), mkp_length, Nat.add_sub_cancel_left, List.getElem?_reverse (by rw [mkp_length]; exact hj), mkp_length, mkp_get ts 1 (by omega)]
theorem SlP.get {w : World} {B : Nat} {p : Option Addr} {ps : List Peer} {k : Nat} {q : Peer} (h : SlP w B p ps) (hk : ps[k]? = some q) : ∃ g off, p = some ⟨g, off, none⟩ ∧ g < B ∧ w.rangeAt g (off + k * 21) (pc q) ∧ Id20 q.2 := by
  obtain ⟨hlt, rfl⟩ := List.getElem?_eq_some_iff.1 hk
  have := SlP.at (l := ps.take k) (q := ps[k]) (r := ps.drop (k + 1)) (by rw [List.getElem_cons_drop, List.take_append_drop]; exact h)
  rwa [List.length_take, Nat.min_eq_left (by omega)] at this
theorem SlP.of_blk {w : World} {g : Nat} {ps : List Peer} (h : Blk w g (pcs ps)) (hi : ∀ x ∈ ps, Id20 x.2) : SlP w w.heap.size (some ⟨g, 0, none⟩) ps :=
  ⟨hi, .inr ⟨g, 0, rfl, h.lt, h.whole⟩⟩

theorem nn_call (ss ts : List ByteArray) (hs : ss.length ≤ 4096) (ht : ts.length ≤ 4096) (gn gb : Nat) (w : World) (h1 : Blk w gn (pcs (mkp ss 0))) (h2 : Blk w gb (pcs (mkp ts 1))) :
    Calls Try.prog 19 #[.slice (some ⟨gn, 0, none⟩) ss.length ss.length, .slice (some ⟨gb, 0, none⟩) ts.length ts.length] w fun e w' => ∃ a, (∃ c, e = .returned (.slice a (ss.length + ts.length) c)) ∧ Below w.heap.size w w' ∧ SlP w' w'.heap.size a (gotP ss ts) := by
  have hz := zzNextNodes_any (some ⟨gn, 0, none⟩) (some ⟨gb, 0, none⟩) (mkp ss 0) (mkp ts 1) ss.length ts.length w (SlP.of_blk h1 (mkp_id ss (s := 0) (by omega) (by omega) (by omega))) (SlP.of_blk h2 (mkp_id ts (s := 1) (by omega) (by omega) (by omega)))
    (by rw [mkp_length]; exact Nat.le_refl _) (by rw [mkp_length]; exact Nat.le_refl _) (by simp only [maxLen]; omega) (by rw [mkp_length, mkp_length]; omega)
  rw [mkp_length, mkp_length] at hz
  refine hz.mono ?_
  rintro e w' ⟨v, rfl, hb, hown⟩
  have ho : w'.ownsRow w.heap.size 39 21 v (gotP ss ts).length (pcs (gotP ss ts)) := by rw [gotP_length]; exact hown
  obtain ⟨a, c, hv, _, _, hsl⟩ := own_SlP ho (gotP_id ss ts hs ht)
  rw [gotP_length] at hv
  exact ⟨a, ⟨c, by rw [hv]⟩, hb, hsl⟩
theorem ad_call (ss ts : List ByteArray) (hs : ss.length ≤ 4096) (ht : ts.length ≤ 4096) (a : Option Addr) (c : Nat) (w : World) (hp : SlP w w.heap.size a (gotP ss ts)) :
    Calls Try.prog 20 #[.slice a (ss.length + ts.length) c] w fun e w' => ∃ g, e = .returned (.slice (some ⟨g, 0, none⟩) (ss.length + ts.length) (ss.length + ts.length)) ∧ Below w.heap.size w w' ∧ Blk w' g (strV (ss ++ ts.reverse)) := by
  have hz := zzAddrsOf_any a (gotP ss ts) c w hp (by rw [gotP_length]; omega)
  rw [gotP_length, gotP_fst] at hz
  exact hz
theorem run_neq26 {a : Act} {o : Oper} {w : World} {x y : Operand} {t' : TypeId} {xs : List Int} (ho : o.op = .binOp .neq 26 x y t') (hx : a.eval x = .agg (idc xs)) (hy : a.eval y = .agg (idc xs)) (ix : Id20 xs) :
    (execOp a.eval o).run Try.prog w = .ok (.value (.bool false)) w := by
  unfold execOp
  simp only [ho]
  rw [hx, hy]
  simp only [Sem.run_bind, run_eqGuard_agg w .neq 26 x y _ _ guard26, Result.andThen_ok, run_neq_struct, run_equal26 xs xs ix ix]
  simp
theorem run_neq9 {a : Act} {o : Oper} {w : World} {x y : Operand} {t' : TypeId} {s : ByteArray} (ho : o.op = .binOp .neq 9 x y t') (hx : a.eval x = .string s) (hy : a.eval y = .string s) :
    (execOp a.eval o).run Try.prog w = .ok (.value (.bool false)) w := by
  have hb : (binOp .neq 9 (.string s) (.string s)).run Try.prog w = .ok (.bool false) w := by
    simp [binOp, Op.stringOp]
  unfold execOp
  simp only [ho]
  rw [hx, hy]
  simp only [Sem.run_bind]
  have hg : (eqGuard .neq 9 x y (.string s) (.string s)).run Try.prog w = .ok () w := by simp [eqGuard]
  rw [hg, Result.andThen_ok, hb]
  rfl
end Go.Proofs.Qxb6001692a
