import Derived.Test.Qxb6001692aAo
import Derived.Laws.Cover3
import Derived.WalkSpells
namespace Go.Proofs.Qxb6001692a
open Go.ChangeShapes Go.WideShapes Go.ChangeAt Go.RowKit
set_option linter.unusedVariables false

set_option maxRecDepth 100000 in
theorem zzAddrsOf_any (a : Option Addr) (ps : List Peer) (c : Nat) (w : World) (hp : SlP w w.heap.size a ps) (hlen : ps.length ≤ 8192) :
    Calls Try.prog 20 #[.slice a ps.length c] w fun e w' => ∃ g, e = .returned (.slice (some ⟨g, 0, none⟩) ps.length ps.length) ∧ Below w.heap.size w w' ∧ Blk w' g (strV (ps.map (·.1))) := by
  go_enter Try.func20, Try.ntmps20
  go_wp2_with (first
    | (go_at_call 28; refine (addrsOf_any a ps c _ hp hlen).mono ?_; rintro e w' ⟨g, rfl, hb, hg⟩))
  go_ret
  exact ⟨g, rfl, hb, hg⟩

/-- A slice of strings. -/
def SlS (w : World) (a : Option Addr) (ss : List ByteArray) : Prop := ∀ i, i < ss.length → ∃ p, a = some p ∧ p.block < w.heap.size ∧ w.cell? (p.add i) = some (.string (ss.getD i ByteArray.empty))
theorem Addr.add_block (p : Addr) (i : Nat) : (p.add i).block = p.block := by unfold Addr.add; split <;> rfl
theorem SlS.via {w w' : World} {a : Option Addr} {ss : List ByteArray} (b : Below w.heap.size w w') (h : SlS w a ss) : SlS w' a ss := fun i hi => by
  obtain ⟨p, ha, hp, hc⟩ := h i hi
  exact ⟨p, ha, Nat.lt_of_lt_of_le hp b.size, (b.cell (p := p.add i) (by rw [Addr.add_block]; exact hp)).trans hc⟩
theorem SlS.of_blk {w : World} {g : Nat} {ss : List ByteArray} (h : Blk w g (strV ss)) : SlS w (some ⟨g, 0, none⟩) ss := fun i hi => by
  refine ⟨_, rfl, h.lt, ?_⟩
  rw [Addr.add_mid, Nat.zero_add]
  refine h.cellAt i ?_
  simp [strV, List.getD_eq_getElem?_getD, List.getElem?_eq_getElem hi]

set_option maxRecDepth 100000 in
set_option maxHeartbeats 1000000 in
theorem clone_any (a : Option Addr) (ss : List ByteArray) (c : Nat) (w : World) (hp : SlS w a ss) (hn : a = none → ss = []) (hlen : ss.length ≤ 8192) :
    Calls Try.prog 16 #[.slice a ss.length c] w fun e w' => ∃ a', (∃ c', e = .returned (.slice a' ss.length c')) ∧ Below w.heap.size w w' ∧ SlS w' a' ss := by
  cases a with
  | none =>
    obtain rfl := hn rfl
    have heq : (binOp .eql 33 (.slice none 0 c) (.slice none 0 0)).run Try.prog w = .ok (.bool true) w := by simp only [binOp]; simp [run_equal_slice_nil w 33 9 none 0 c Try.underlying33]
    go_enter Try.func16, Try.ntmps16
    go_wp2
    go_ret
    exact ⟨none, ⟨0, rfl⟩, Below.refl _ _, fun i hi => by simp at hi⟩
  | some pa =>
    clear hn
    have heq : (binOp .eql 33 (.slice (some pa) ss.length c) (.slice none 0 0)).run Try.prog w = .ok (.bool false) w := by simp only [binOp]; simp [run_equal_slice_nil w 33 9 (some pa) ss.length c Try.underlying33]
    go_enter Try.func16, Try.ntmps16
    go_wp2_with (first
      | (refine wpl_make9 rfl rfl ss.length rfl rfl hlen ?_; intro g w1 hs hb hl; simp only [Act.put, List.setIfInBounds_toArray, List.set_cons_zero, List.set_cons_succ]))
    go_loopw [4] (fun i wr => ∃ k : Nat, k ≤ ss.length ∧ i = .int .i64 (k : Int) ∧ Blk wr g (filled ss k) ∧ Below w.heap.size w wr) (fun i _ => (ss.length - intOf i).toNat)
    case atStart => exact ⟨0, by omega, rfl, by rw [filled_zero]; exact hs, hb⟩
    case round =>
      obtain ⟨k, hk, rfl, hbk, hbe⟩ := hrel
      clear hs hb
      by_cases hlt : k < ss.length
      · have hki : (k : Int) < (ss.length : Int) := by omega
        have hk0 : (0 : Int) ≤ (k : Int) := by omega
        obtain ⟨p, hpa, hpb, hpc⟩ := hp k hlt
        obtain rfl := Option.some.inj hpa
        obtain ⟨s, hsk⟩ : ∃ s, ss.getD k ByteArray.empty = s := ⟨_, rfl⟩
        have HK : Hid ((filled ss k).set k (.string s) = filled ss (k + 1)) := by rw [← hsk]; exact filled_set ss k hlt
        rw [hsk] at hpc
        have hpc' : World.cell? _ (pa.add k) = some (.string s) := (hbe.cell (p := pa.add k) (by rw [Addr.add_block]; exact hpb)).trans hpc
        clear hsk hpc
        have t1 : True := trivial
        go_wp2_with (first
          | (have _t := t1; refine wpl_val rfl (.pointer (some (pa.add k))) ((run_index Try.underlying33 size9 rfl rfl rfl hk0 hki).trans (by rw [Nat.mul_one]; rfl)) ?_; clear t1 _t; simp only [Act.put, List.setIfInBounds_toArray, List.set_cons_zero, List.set_cons_succ])
          | (refine wpl_val rfl _ (run_load9 rfl rfl hpc') ?_; simp only [Act.put, List.setIfInBounds_toArray, List.set_cons_zero, List.set_cons_succ])
          | (refine wpl_store9 rfl rfl rfl rfl hbk (by rw [filled_length ss k (by omega)]; omega) ?_; intro w5 hs5 hb5 hk5; simp only [Act.put])
          | (refine wpl_val rfl (.pointer (some ⟨g, k, none⟩)) ((run_index Try.underlying33 size9 rfl rfl rfl hk0 hki).trans (by rw [Addr.add_mid, Nat.zero_add, Nat.mul_one]; rfl)) ?_; simp only [Act.put, List.setIfInBounds_toArray, List.set_cons_zero, List.set_cons_succ]))
        go_roundw
        case rel => exact ⟨k + 1, by omega, by go_num, HK.out ▸ hs5, hbe.trans (hb5 _ hl)⟩
        case measure => simp [intOf]; omega
      · have hke : k = ss.length := by omega
        subst hke
        go_wp2
        go_ret
        exact ⟨_, ⟨_, rfl⟩, hbe, SlS.of_blk (by rw [← filled_all]; exact hbk)⟩

set_option maxRecDepth 100000 in
set_option maxHeartbeats 1000000 in
theorem stringBytes_any (a : Option Addr) (ss : List ByteArray) (c : Nat) (w : World) (hp : SlS w a ss) (hm : ss.length ≤ maxLen) :
    Calls Try.prog 15 #[.slice a ss.length c] w fun e w' => (∃ z, e = .returned (.int .i64 z)) ∧ w' = w := by
  have hm' : ss.length ≤ 9223372036854775807 := by simp only [maxLen] at hm; omega
  go_enter Try.func15, Try.ntmps15
  go_wp2
  go_loop [3, 4] (fun n i => ∃ (k : Nat) (z : Int), k ≤ ss.length ∧ i = .int .i64 (k : Int) ∧ n = .int .i64 z) (fun _ i => (ss.length - intOf i).toNat)
  case atStart => exact ⟨0, _, by omega, rfl, rfl⟩
  case round =>
    obtain ⟨k, z, hk, rfl, rfl⟩ := hrel
    by_cases hlt : k < ss.length
    · have hki : (k : Int) < (ss.length : Int) := by omega
      have hk0 : (0 : Int) ≤ (k : Int) := by omega
      obtain ⟨p, hpa, hpb, hpc⟩ := hp k hlt
      subst hpa
      obtain ⟨s, hsk⟩ : ∃ s, ss.getD k ByteArray.empty = s := ⟨_, rfl⟩
      rw [hsk] at hpc
      clear hsk
      go_wp2_with (first
        | (refine wpl_val rfl (.pointer (some (p.add k))) ((run_index Try.underlying33 size9 rfl rfl rfl hk0 hki).trans (by rw [Nat.mul_one]; rfl)) ?_; simp only [Act.put, List.setIfInBounds_toArray, List.set_cons_zero, List.set_cons_succ])
        | (refine wpl_val rfl _ (run_load9 rfl rfl hpc) ?_; simp only [Act.put, List.setIfInBounds_toArray, List.set_cons_zero, List.set_cons_succ]))
      all_goals first
        | (go_ret; exact ⟨⟨_, rfl⟩, rfl⟩)
        | (go_round
           case rel => exact ⟨k + 1, _, by omega, by go_num, rfl⟩
           case measure => simp [intOf]; omega)
    · have hke : k = ss.length := by omega
      subst hke
      go_wp2
      go_ret
      exact ⟨⟨_, rfl⟩, rfl⟩
end Go.Proofs.Qxb6001692a
