import Derived.Test.Qxb6600689aMem
import Derived.Laws.Cover3
namespace Go.Proofs.Qxb6600689a
open Go.ChangeShapes Go.WideShapes Go.ChangeAt Go.RowKit
set_option linter.unusedVariables false

/-- A bool was returned. -/
def IsB (e : Ending) : Prop := ∃ z, e = .returned (.bool z)
set_option maxRecDepth 100000 in
set_option maxHeartbeats 1000000 in
theorem zb_any (a b : Option Addr) (n m c d : Nat) (w : World) (hm : n ≤ 9223372036854775807) (hn : m ≤ 9223372036854775807) :
    Calls Try.prog 6 #[.slice a n c, .slice b m d] w fun e w' => IsB e ∧ w' = w := by
  go_enter Try.func6, Try.ntmps6
  go_wp2
  all_goals (go_ret; exact ⟨⟨_, rfl⟩, rfl⟩)

/-- What the loop has copied. -/
def fl (zs : List Int) (k : Nat) : List Int := zs.take k ++ List.replicate (zs.length - k) 0
theorem fl_length (zs : List Int) (k : Nat) (hk : k ≤ zs.length) : (fl zs k).length = zs.length := by simp [fl]; omega
theorem fl_zero (zs : List Int) : fl zs 0 = List.replicate zs.length 0 := by simp [fl]
theorem fl_all (zs : List Int) : fl zs zs.length = zs := by simp [fl]
theorem fl_set (zs : List Int) (k : Nat) (hk : k < zs.length) : (fl zs k).set k (zs.getD k 0) = fl zs (k + 1) := by
  simp only [fl]
  rw [List.set_append_right _ _ (by simp; omega)]
  have e : zs.length - k = (zs.length - (k + 1)) + 1 := by omega
  rw [e, List.replicate_succ]
  have : k - (zs.take k).length = 0 := by simp; omega
  have e2 : zs.take (k + 1) = zs.take k ++ [zs.getD k 0] := by
    rw [List.take_add_one, List.getElem?_eq_getElem hk, List.getD_eq_getElem?_getD, List.getElem?_eq_getElem hk]
    rfl
  rw [this, List.set_cons_zero, e2, List.append_assoc]
  rfl
theorem iv_length (zs : List Int) : (iv zs).length = zs.length := by simp [iv]
theorem yv_length (zs : List Int) : (yv zs).length = zs.length := by simp [yv]
theorem Addr.add_block (p : Addr) (i : Nat) : (p.add i).block = p.block := by unfold Addr.add; split <;> rfl

theorem run_index {t e : TypeId} {sz : Nat} (ht : Try.prog.underlying t = some (.slice e)) (hs : (Try.prog.info? e).map (·.size) = some sz) {a : Act} {o : Oper} {w : World} {x y : Operand} (ho : o.op = .indexAddr t x y)
    {p : Addr} {n cap : Nat} (hx : a.eval x = .slice (some p) n cap) {i : Int} (hy : a.eval y = .int .i64 i) (h0 : 0 ≤ i) (h1 : i < (n : Int)) :
    (execOp a.eval o).run Try.prog w = .ok (.value (.pointer (some (p.add (i.toNat * sz))))) w := by
  unfold execOp
  simp only [ho]
  rw [hx, hy]
  have : (Instr.indexAt t (.slice (some p) n cap) (.int .i64 i)).run Try.prog w = .ok (.pointer (some (p.add (i.toNat * sz)))) w := by
    unfold Instr.indexAt
    simp [asIntOf, run_underlying ht, h0, h1, run_size hs]
  rw [Sem.run_bind, this]
  rfl

set_option maxRecDepth 100000 in
set_option maxHeartbeats 1000000 in
theorem clone_any (a : Option Addr) (zs : List Int) (c : Nat) (w : World) (hp : ∀ i, i < zs.length → ∃ x, a = some x ∧ x.block < w.heap.size ∧ w.cell? (x.add i) = some (.int .i64 (zs.getD i 0))) (hn : a = none → zs = []) (hlen : zs.length ≤ 8192) :
    Calls Try.prog 7 #[.slice a zs.length c] w fun e w' => ∃ p, e = .returned (.slice p zs.length zs.length) ∧ Below w.heap.size w w' ∧ In w' w'.heap.size p zs := by
  cases a with
  | none =>
    obtain rfl := hn rfl
    have heq : (binOp .eql 22 (.slice none 0 c) (.slice none 0 0)).run Try.prog w = .ok (.bool true) w := by simp only [binOp]; simp [run_equal_slice_nil w 22 3 none 0 c Try.underlying22]
    go_enter Try.func7, Try.ntmps7
    go_wp2
    go_ret
    exact ⟨none, rfl, Below.refl _ _, fun i hi => by simp at hi⟩
  | some pa =>
    clear hn
    have heq : (binOp .eql 22 (.slice (some pa) zs.length c) (.slice none 0 0)).run Try.prog w = .ok (.bool false) w := by simp only [binOp]; simp [run_equal_slice_nil w 22 3 (some pa) zs.length c Try.underlying22]
    go_enter Try.func7, Try.ntmps7
    go_wp2_with (first
      | (refine wpl_make3 rfl rfl zs.length _ rfl rfl rfl (by omega) ?_; intro g w1 hs hb hl; simp only [Act.put, List.setIfInBounds_toArray, List.set_cons_zero, List.set_cons_succ]))
    go_loopw [4] (fun i wr => ∃ k : Nat, k ≤ zs.length ∧ i = .int .i64 (k : Int) ∧ Blk wr g (iv (fl zs k)) ∧ Below w.heap.size w wr) (fun i _ => (zs.length - intOf i).toNat)
    case atStart => exact ⟨0, by omega, rfl, by rw [fl_zero]; exact hs, hb⟩
    case round =>
      obtain ⟨k, hk, rfl, hbk, hbe⟩ := hrel
      clear hs hb
      by_cases hlt : k < zs.length
      · have hki : (k : Int) < (zs.length : Int) := by omega
        have hk0 : (0 : Int) ≤ (k : Int) := by omega
        obtain ⟨p, hpa, hpb, hpc⟩ := hp k hlt
        obtain rfl := Option.some.inj hpa
        obtain ⟨s, hsk⟩ : ∃ s, zs.getD k 0 = s := ⟨_, rfl⟩
        have HK : Hid ((fl zs k).set k s = fl zs (k + 1)) := by rw [← hsk]; exact fl_set zs k hlt
        rw [hsk] at hpc
        have hpc' : World.cell? _ (pa.add k) = some (.int .i64 s) := (hbe.cell (p := pa.add k) (by rw [Addr.add_block]; exact hpb)).trans hpc
        clear hsk hpc
        go_wp2_with (first
          | (refine wpl_storeI size3 rfl rfl rfl rfl hbk (by rw [iv_length, fl_length zs k (by omega)]; omega) ?_; intro w5 hs5 hb5 hk5; simp only [Act.put]))
        go_roundw
        case rel => exact ⟨k + 1, by omega, by go_num, by rw [← HK.out, ← iv_set]; exact hs5, hbe.trans (hb5 _ hl)⟩
        case measure => simp [intOf]; omega
      · have hke : k = zs.length := by omega
        subst hke
        go_wp2
        go_ret
        exact ⟨_, rfl, hbe, In.of_blk (by rw [fl_all] at hbk; exact hbk)⟩
end Go.Proofs.Qxb6600689a
