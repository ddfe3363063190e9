import Derived.Test.Qxb6001692aAd
namespace Go.Proofs.Qxb6001692a
open Go.ChangeShapes Go.WideShapes Go.ChangeAt Go.RowKit
set_option linter.unusedVariables false

def strV (ss : List ByteArray) : List Value := ss.map .string
/-- The row of strings, filled up to k. -/
def filled (ss : List ByteArray) (k : Nat) : List Value := strV (ss.take k) ++ List.replicate (ss.length - k) (.string ByteArray.empty)
theorem filled_zero (ss : List ByteArray) : filled ss 0 = List.replicate ss.length (.string ByteArray.empty) := by simp [filled, strV]
theorem filled_all (ss : List ByteArray) : filled ss ss.length = strV ss := by simp [filled, strV]
theorem filled_length (ss : List ByteArray) (k : Nat) (hk : k ≤ ss.length) : (filled ss k).length = ss.length := by simp [filled, strV]; omega
theorem filled_set (ss : List ByteArray) (k : Nat) (hk : k < ss.length) : (filled ss k).set k (.string (ss.getD k ByteArray.empty)) = filled ss (k + 1) := by
  have e1 : (strV (ss.take k)).length = k := by simp [strV]; omega
  have e2 : ss.length - k = (ss.length - (k + 1)) + 1 := by omega
  unfold filled
  rw [List.set_append_right _ _ (by omega), e1, Nat.sub_self, e2, List.replicate_succ, List.set_cons_zero, List.take_succ_eq_append_getElem hk]
  have e3 : ss.getD k ByteArray.empty = ss[k] := by simp [List.getD_eq_getElem?_getD, List.getElem?_eq_getElem hk]
  rw [e3]
  simp only [strV, List.map_append, List.map_cons, List.map_nil, List.append_assoc, List.singleton_append]

set_option maxRecDepth 100000 in
set_option maxHeartbeats 1000000 in
theorem addrsOf_any (a : Option Addr) (ps : List Peer) (c : Nat) (w : World) (hp : SlP w w.heap.size a ps) (hlen : ps.length ≤ 8192) :
    Calls Try.prog 28 #[.slice a ps.length c] w fun e w' => ∃ g, e = .returned (.slice (some ⟨g, 0, none⟩) ps.length ps.length) ∧ Below w.heap.size w w' ∧ Blk w' g (strV (ps.map (·.1))) := by
  obtain ⟨ss, hss⟩ : ∃ ss, ss = ps.map (·.1) := ⟨_, rfl⟩
  have hsl : ss.length = ps.length := by rw [hss]; simp
  rw [← hss]
  go_enter Try.func28, Try.ntmps28
  go_wp2_with (first
    | (refine wpl_make9 rfl rfl ps.length rfl rfl hlen ?_; intro g w1 hs hb hl; simp only [Act.put, List.setIfInBounds_toArray, List.set_cons_zero, List.set_cons_succ]))
  have HS : Hid (ss = ps.map (·.1)) := hss
  clear hss
  go_loopw [11] (fun i wr => ∃ k : Nat, k ≤ ps.length ∧ i = .int .i64 (k : Int) ∧ Blk wr g (filled ss k) ∧ Below w.heap.size w wr) (fun i _ => (ps.length - intOf i).toNat)
  case atStart => exact ⟨0, by omega, rfl, by rw [filled_zero, hsl]; exact hs, hb⟩
  case round =>
    obtain ⟨k, hk, rfl, hbk, hbe⟩ := hrel
    clear hs hb
    by_cases hlt : k < ps.length
    · have hki : (k : Int) < (ps.length : Int) := by omega
      obtain ⟨ga, off, ha, hga, hra, hpi⟩ := SlP.at (l := ps.take k) (q := ps[k]) (r := ps.drop (k + 1)) (by rw [List.getElem_cons_drop, List.take_append_drop]; exact hp)
      subst ha
      obtain ⟨p, hpk⟩ : ∃ p, ps[k] = p := ⟨_, rfl⟩
      have hsk : ss.getD k ByteArray.empty = p.1 := by rw [HS.out, ← hpk]; simp [List.getD_eq_getElem?_getD, List.getElem?_map, List.getElem?_eq_getElem hlt]
      have HK : Hid ((filled ss k).set k (.string p.1) = filled ss (k + 1)) := by rw [← hsk]; exact filled_set ss k (by omega)
      rw [hpk] at hra hpi
      rw [List.length_take, Nat.min_eq_left hk] at hra
      clear hpk hsk
      go_wp2_with (first
        | (refine wpl_val rfl (.pointer (some ⟨ga, off + k * 21, none⟩)) ((run_index Try.underlying37 size39 rfl rfl rfl (by omega) hki).trans (by rw [Addr.add_mid]; rfl)) ?_; simp only [Act.put, List.setIfInBounds_toArray, List.set_cons_zero, List.set_cons_succ])
        | (refine wpl_val rfl _ (run_load39 _ rfl ga (off + k * 21) rfl p hpi.1 (rangeAt_block (hbe.block ga hga) hra)) ?_; simp only [Act.put, List.setIfInBounds_toArray, List.set_cons_zero, List.set_cons_succ])
        | (refine wpl_alloc39 rfl rfl ?_; intro g3 w3 hs3 hb3 hl3; have hbk3 := Blk.via hb3 hbk; have hlt3 := hbk3.lt; simp only [Act.put, List.setIfInBounds_toArray, List.set_cons_zero, List.set_cons_succ])
        | (refine wpl_store39 rfl _ _ rfl g3 rfl p (ByteArray.empty, zeros) rfl hpi.1 zeros_id.1 hs3 ?_; intro w4 hs4 hb4 hk4; have hbk4 := hbk3.of_block (hk4 g (by have := hbk.lt; omega)); simp only [Act.put])
        | (refine wpl_store9 rfl rfl rfl rfl hbk4 (by rw [filled_length ss k (by omega)]; omega) ?_; intro w5 hs5 hb5 hk5; simp only [Act.put])
        | (refine wpl_val rfl _ (run_fieldAddr rfl rfl (fa39_0 g3 _)) ?_; simp only [Act.put, List.setIfInBounds_toArray, List.set_cons_zero, List.set_cons_succ])
        | (refine wpl_val rfl _ (run_load9 rfl rfl (hs4.cellAt 0 rfl)) ?_; simp only [Act.put, List.setIfInBounds_toArray, List.set_cons_zero, List.set_cons_succ])
        | (refine wpl_val rfl (.pointer (some ⟨g, k, none⟩)) ((run_index Try.underlying33 size9 rfl rfl rfl (by omega) hki).trans (by rw [Addr.add_mid, Nat.zero_add, Nat.mul_one]; rfl)) ?_; simp only [Act.put, List.setIfInBounds_toArray, List.set_cons_zero, List.set_cons_succ]))
      go_roundw
      case rel => exact ⟨k + 1, by omega, by go_num, HK.out ▸ hs5, ((hbe.trans (hb3.mono hbe.size)).trans (hb4 _ (by have := hbe.size; omega))).trans (hb5 _ hl)⟩
      case measure => simp [intOf]; omega
    · have hke : k = ps.length := by omega
      subst hke
      go_wp2
      go_ret
      exact ⟨g, rfl, hbe, by rw [← filled_all, hsl]; exact hbk⟩
end Go.Proofs.Qxb6001692a
