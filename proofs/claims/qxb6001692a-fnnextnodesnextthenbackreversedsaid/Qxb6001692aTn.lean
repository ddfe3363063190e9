import Derived.Test.Qxb6001692aDag2
namespace Go.Proofs.Qxb6001692a
open Go.ChangeShapes Go.WideShapes Go.ChangeAt Go.RowKit
set_option linter.unusedVariables false

set_option maxRecDepth 100000 in
theorem hasNext_f (ow : Value) (a b : Option Addr)  (c d : Nat) (w : World) :
    Calls Try.prog 33 #[.agg #[ow, .slice a 0 c, .slice b 0 d]] w fun e w' => e = .returned (.bool false) ∧ Below w.heap.size w w' := by
  go_enter Try.func33, Try.ntmps33
  go_wp2_with (first
    | (refine wpl_boxL rfl _ rfl [ow, .slice a 0 c, .slice b 0 d] rfl ?_; intro g w1 hs hb hl; have c1 := hs.cellAt 1 rfl; have c2 := hs.cellAt 2 rfl; simp only [Act.put, List.setIfInBounds_toArray, List.set_cons_zero, List.set_cons_succ]))
  go_ret
  exact ⟨rfl, hb⟩
set_option maxRecDepth 100000 in
theorem hasNext_t2 (ow : Value) (a b : Option Addr) (m : Nat) (hm : 0 < m) (c d : Nat) (w : World) :
    Calls Try.prog 33 #[.agg #[ow, .slice a 0 c, .slice b m d]] w fun e w' => e = .returned (.bool true) ∧ Below w.heap.size w w' := by
  have h1 : (0 : Int) < (m : Int) := by omega
  go_enter Try.func33, Try.ntmps33
  go_wp2_with (first
    | (refine wpl_boxL rfl _ rfl [ow, .slice a 0 c, .slice b m d] rfl ?_; intro g w1 hs hb hl; have c1 := hs.cellAt 1 rfl; have c2 := hs.cellAt 2 rfl; simp only [Act.put, List.setIfInBounds_toArray, List.set_cons_zero, List.set_cons_succ]))
  go_ret
  exact ⟨rfl, hb⟩
set_option maxRecDepth 100000 in
theorem hasNext_t1 (ow : Value) (a b : Option Addr) (n m : Nat) (hn : 0 < n) (c d : Nat) (w : World) :
    Calls Try.prog 33 #[.agg #[ow, .slice a n c, .slice b m d]] w fun e w' => e = .returned (.bool true) ∧ Below w.heap.size w w' := by
  have h1 : (0 : Int) < (n : Int) := by omega
  go_enter Try.func33, Try.ntmps33
  go_wp2_with (first
    | (refine wpl_boxL rfl _ rfl [ow, .slice a n c, .slice b m d] rfl ?_; intro g w1 hs hb hl; have c1 := hs.cellAt 1 rfl; have c2 := hs.cellAt 2 rfl; simp only [Act.put, List.setIfInBounds_toArray, List.set_cons_zero, List.set_cons_succ]))
  go_ret
  exact ⟨rfl, hb⟩

set_option maxRecDepth 100000 in
set_option maxHeartbeats 1000000 in
theorem takeNext_1 (gs B : Nat) (ow : Value) (a b : Option Addr) (p : Peer) (ps qs : List Peer) (c d : Nat) (w : World) (hgs : Blk w gs [ow, .slice a (ps.length + 1) c, .slice b qs.length d]) (hB : B ≤ gs) (hc : ps.length + 1 ≤ c)
    (hp : SlP w B a (p :: ps)) :
    Calls Try.prog 34 #[.pointer (some ⟨gs, 0, none⟩)] w fun e w' => e = .returned (.agg (pc p).toArray) ∧ Below B w w' ∧ (∀ k, k ≠ gs → k < w.heap.size → w'.heap[k]? = w.heap[k]?) ∧
      Blk w' gs [ow, .slice (tl c a) ps.length (c - 1), .slice b qs.length d] := by
  obtain ⟨ga, off, ha, hga, hra, hpi⟩ := SlP.at (l := []) hp
  subst ha
  have hn : (0 : Int) < ((ps.length + 1 : Nat) : Int) := by omega
  have hlt := hgs.lt
  have hra : w.rangeAt ga off (pc p) := by simpa using hra
  have ta : True := trivial
  have tb : True := trivial
  have tc : True := trivial
  have td : True := trivial
  go_enter Try.func34, Try.ntmps34
  go_wp2_with (first
    | (have _t := ta; refine wpl_alloc39 rfl rfl ?_; intro g2 w2 hs2 hb2 hl2; have hgs2 := Blk.via hb2 hgs; have c1 := hgs2.cellAt 1 rfl; have hra2 := rangeAt_block (hb2.block ga (by omega)) hra; clear ta _t; simp only [Act.put, List.setIfInBounds_toArray, List.set_cons_zero, List.set_cons_succ])
    | (have _t := tb; refine wpl_alloc39 rfl rfl ?_; intro g3 w3 hs3 hb3 hl3; have hgs3 := Blk.via hb3 hgs2; have hs23 := Blk.via hb3 hs2; have hlt2 := hs2.lt; clear tb _t; simp only [Act.put, List.setIfInBounds_toArray, List.set_cons_zero, List.set_cons_succ])
    | (have _t := tc; refine wpl_val rfl _ (run_index Try.underlying37 size39 rfl rfl rfl (by omega) hn) ?_; clear tc _t; simp only [Act.put, List.setIfInBounds_toArray, List.set_cons_zero, List.set_cons_succ])
    | (have _t := td; refine wpl_val rfl _ (run_load39 _ rfl ga off rfl p hpi.1 hra2) ?_; clear td _t; simp only [Act.put, List.setIfInBounds_toArray, List.set_cons_zero, List.set_cons_succ])
    | (refine wpl_store39 rfl _ _ rfl g3 rfl p (ByteArray.empty, zeros) rfl hpi.1 zeros_id.1 hs3 ?_; intro w4 hs4 hb4 hk4; have hgs4 := hgs3.of_block (hk4 gs (by omega)); have hs24 := hs23.of_block (hk4 g2 (by omega)); have c4 := hgs4.cellAt 1 rfl; simp only [Act.put])
    | (refine wpl_val rfl _ (run_slice1 rfl rfl rfl hc) ?_; simp only [Act.put, List.setIfInBounds_toArray, List.set_cons_zero, List.set_cons_succ])
    | (refine wpl_storeS rfl rfl rfl rfl hgs4 (by show 1 < 3; omega) ?_; intro w5 hs5 hb5 hk5; have hs45 := hs4.of_block (hk5 g3 (by omega)); have hs25 := hs24.of_block (hk5 g2 (by omega)); simp only [Act.put])
    | (refine wpl_val rfl _ (run_load39 _ rfl g3 0 rfl p hpi.1 hs45.whole) ?_; simp only [Act.put, List.setIfInBounds_toArray, List.set_cons_zero, List.set_cons_succ])
    | (refine wpl_store39 rfl _ _ rfl g2 rfl p (ByteArray.empty, zeros) rfl hpi.1 zeros_id.1 hs25 ?_; intro w6 hs6 hb6 hk6; have hgs6 := hs5.of_block (hk6 gs (by omega)); simp only [Act.put]))
  have e2 := hb2.size
  have e3 := hb3.size
  refine bodyPost_ret (v := .agg (pc p).toArray) (results_peer rfl _ hpi.1 rfl hs6) rfl ⟨rfl, ?_, ?_, hgs6⟩
  · exact ((((hb2.mono (by omega)).trans (hb3.mono (by omega))).trans (hb4 B (by omega))).trans (hb5 B hB)).trans (hb6 B (by omega))
  · intro k hk hkl
    rw [hk6 k (by omega), hk5 k hk, hk4 k (by omega), hb3.block k (by omega), hb2.block k hkl]

theorem fa64_2 (g : Nat) (w : World) : (Instr.fieldAt 64 (.pointer (some ⟨g, 0, none⟩)) 2).run Try.prog w = .ok (.pointer (some ⟨g, 2, none⟩)) w := by kernel_rfl
/-- The world in region 5 of takeNext: ahead of the new variable and behind it. -/
def V5 (w : World) : Bool → World → Prop
  | false, w' => Ext w w' ∧ w'.heap.size = w.heap.size
  | true, w' => Ext w w' ∧ Blk w' w.heap.size (pc (ByteArray.empty, zeros))
theorem V5.ext {w w' : World} {s : Bool} (h : V5 w s w') : Ext w w' := by cases s <;> exact h.1
set_option maxRecDepth 100000 in
set_option maxHeartbeats 1000000 in
theorem takeNext_2 (gs B : Nat) (ow : Value) (a b : Option Addr) (q : Peer) (qs : List Peer) (c d : Nat) (w : World) (hgs : Blk w gs [ow, .slice a 0 c, .slice b (qs.length + 1) d]) (hB : B ≤ gs) (hd : qs.length + 1 ≤ d) (hm : d ≤ maxLen)
    (hq : SlP w B b (qs ++ [q])) :
    Calls Try.prog 34 #[.pointer (some ⟨gs, 0, none⟩)] w fun e w' => e = .returned (.agg (pc q).toArray) ∧ Below B w w' ∧ (∀ k, k ≠ gs → k < w.heap.size → w'.heap[k]? = w.heap[k]?) ∧
      Blk w' gs [ow, .slice a 0 c, .slice b qs.length d] := by
  obtain ⟨ga, off, ha, hga, hra, hpi⟩ := SlP.at (l := qs) hq
  subst ha
  have hn : (0 : Int) < ((qs.length + 1 : Nat) : Int) := by omega
  have hlt := hgs.lt
  have ta : True := trivial
  have tb : True := trivial
  go_enter Try.func34, Try.ntmps34
  go_wp2_with (first
    | (have _t := ta; refine wpl_alloc39 rfl rfl ?_; intro g2 w2 hs2 hb2 hl2; have hgs2 := Blk.via hb2 hgs; have c1 := hgs2.cellAt 1 rfl; have c2 := hgs2.cellAt 2 rfl; have hra2 := rangeAt_block (hb2.block ga (by omega)) hra; clear ta _t; simp only [Act.put, List.setIfInBounds_toArray, List.set_cons_zero, List.set_cons_succ]))
  have hnn : qs.length < 9223372036854775807 := by simp only [maxLen] at hm; omega
  refine wp_region_dag2 13 [(.pointer (some ⟨gs, 0, none⟩)), (.pointer (some ⟨gs, 0, none⟩)), (.pointer (some ⟨gs, 2, none⟩)), (.slice (some ⟨ga, off, none⟩) (qs.length + 1) d), (.pointer (some ⟨gs, 0, none⟩)), (.pointer (some ⟨gs, 0, none⟩)), (.pointer (some ⟨gs, 2, none⟩)), (.slice (some ⟨ga, off, none⟩) (qs.length + 1) d), .int .i64 ((qs.length + 1 : Nat) : Int), .int .i64 (qs.length : Int), .pointer (some ⟨ga, off + qs.length * 21, none⟩), .agg (pc q).toArray, .pointer (some ⟨w2.heap.size, 0, none⟩)] 12 (V5 w2)
    (by kernel_rfl) (by kernel_rfl) rfl (by kernel_rfl) ⟨(Below.refl _ _).drew, rfl⟩ ?_ ?_
  · simp only [puts, Act.put, List.setIfInBounds_toArray, List.set_cons_zero, List.set_cons_succ]
    refine ⟨?_, ?_, ?_, ?_, ?_, ?_, ?_, ?_, ?_, ?_, ?_, ?_, ?_, trivial⟩
    · exact step_val rfl fun _ _ _ => run_move rfl rfl
    · exact step_val rfl fun _ _ _ => run_nilCheck rfl rfl
    · exact step_val rfl fun _ _ _ => run_fieldAddr rfl rfl (fa64_2 gs _)
    · exact step_val rfl fun _ w' h => run_loadS rfl rfl ((Blk.via h.ext hgs2).cellAt 2 rfl)
    · exact step_val rfl fun _ _ _ => run_move rfl rfl
    · exact step_val rfl fun _ _ _ => run_nilCheck rfl rfl
    · exact step_val rfl fun _ _ _ => run_fieldAddr rfl rfl (fa64_2 gs _)
    · exact step_val rfl fun _ w' h => run_loadS rfl rfl ((Blk.via h.ext hgs2).cellAt 2 rfl)
    · exact step_val rfl fun _ _ _ => run_lenS rfl rfl rfl
    · exact step_val rfl fun _ _ _ => run_sub1 rfl rfl rfl hnn
    · exact step_val rfl fun _ _ _ => (run_index Try.underlying37 size39 rfl rfl rfl (by omega) (by omega)).trans (by rw [Addr.add_mid]; rfl)
    · exact step_val rfl fun _ w' h => run_load39 _ rfl ga _ rfl q hpi.1 (rangeAt_block (h.ext.block ga (by have := hb2.size; omega)) hra2)
    · exact step_alloc39 rfl rfl fun w' h => ⟨by rw [h.2], h.1.alloc (by rw [h.2]; exact Nat.le_refl _) _, by rw [← h.2]; exact ⟨39, heap_alloc_last w' _⟩⟩
  · simp only [puts, Act.put, List.setIfInBounds_toArray, List.set_cons_zero, List.set_cons_succ]
    intro s w3 hV hs
    obtain rfl := hs (by omega)
    obtain ⟨hb3, hs3⟩ := hV
    refine wpl_store39 rfl _ _ rfl w2.heap.size rfl q (ByteArray.empty, zeros) rfl hpi.1 zeros_id.1 hs3 ?_
    intro w4 hs4 hb4 hk4
    simp only [Act.put]
    go_wp2
    have e2 := hb2.size
    have e3 := hb3.size
    have hlt2 := hs2.lt
    have hgs4 := (Blk.via hb3 hgs2).of_block (hk4 gs (by omega))
    have hs24 := (Blk.via hb3 hs2).of_block (hk4 g2 (by omega))
    have hlt4 := hs4.lt
    refine wp_region_dag2 14 [(.pointer (some ⟨gs, 0, none⟩)), (.pointer (some ⟨gs, 0, none⟩)), (.pointer (some ⟨gs, 0, none⟩)), (.pointer (some ⟨gs, 2, none⟩)), (.slice (some ⟨ga, off, none⟩) (qs.length + 1) d), (.pointer (some ⟨gs, 0, none⟩)), (.pointer (some ⟨gs, 0, none⟩)), (.pointer (some ⟨gs, 2, none⟩)), (.slice (some ⟨ga, off, none⟩) (qs.length + 1) d), .int .i64 ((qs.length + 1 : Nat) : Int), .int .i64 (qs.length : Int), .slice (some ⟨ga, off, none⟩) qs.length d, (.pointer (some ⟨gs, 0, none⟩)), (.pointer (some ⟨gs, 2, none⟩))] 99 (fun _ w' => Ext w4 w')
      (by kernel_rfl) (by kernel_rfl) rfl (by kernel_rfl) ((Below.refl _ _).drew) ?_ ?_
    · simp only [puts, Act.put, List.setIfInBounds_toArray, List.set_cons_zero, List.set_cons_succ]
      refine ⟨?_, ?_, ?_, ?_, ?_, ?_, ?_, ?_, ?_, ?_, ?_, ?_, ?_, ?_, trivial⟩
      · exact step_val rfl fun _ _ _ => run_move rfl rfl
      · exact step_val rfl fun _ _ _ => run_move rfl rfl
      · exact step_val rfl fun _ _ _ => run_nilCheck rfl rfl
      · exact step_val rfl fun _ _ _ => run_fieldAddr rfl rfl (fa64_2 gs _)
      · exact step_val rfl fun _ w' h => run_loadS rfl rfl ((Blk.via h hgs4).cellAt 2 rfl)
      · exact step_val rfl fun _ _ _ => run_move rfl rfl
      · exact step_val rfl fun _ _ _ => run_nilCheck rfl rfl
      · exact step_val rfl fun _ _ _ => run_fieldAddr rfl rfl (fa64_2 gs _)
      · exact step_val rfl fun _ w' h => run_loadS rfl rfl ((Blk.via h hgs4).cellAt 2 rfl)
      · exact step_val rfl fun _ _ _ => run_lenS rfl rfl rfl
      · exact step_val rfl fun _ _ _ => run_sub1 rfl rfl rfl hnn
      · exact step_val rfl fun _ _ _ => run_sliceL rfl rfl rfl hd
      · exact step_val rfl fun _ _ _ => run_nilCheck rfl rfl
      · exact step_val rfl fun _ _ _ => run_fieldAddr rfl rfl (fa64_2 gs _)
    · simp only [puts, Act.put, List.setIfInBounds_toArray, List.set_cons_zero, List.set_cons_succ]
      intro s w5 hb5 _
      refine wpl_storeS rfl rfl rfl rfl (Blk.via hb5 hgs4) (by show 2 < 3; omega) ?_
      intro w6 hs6 hb6 hk6
      simp only [Act.put]
      have hs46 := (Blk.via hb5 hs4).of_block (hk6 _ (by omega))
      have hs26 := (Blk.via hb5 hs24).of_block (hk6 g2 (by omega))
      go_wp2_with (first
        | (refine wpl_val rfl _ (run_load39 _ rfl w2.heap.size 0 rfl q hpi.1 hs46.whole) ?_; simp only [Act.put, List.setIfInBounds_toArray, List.set_cons_zero, List.set_cons_succ])
        | (refine wpl_store39 rfl _ _ rfl g2 rfl q (ByteArray.empty, zeros) rfl hpi.1 zeros_id.1 hs26 ?_; intro w7 hs7 hb7 hk7; simp only [Act.put]))
      have hgs7 := hs6.of_block (hk7 gs (by omega))
      have e5 := hb5.size
      refine bodyPost_ret (v := .agg (pc q).toArray) (results_peer rfl _ hpi.1 rfl hs7) rfl ⟨rfl, ?_, ?_, hgs7⟩
      · exact (((((hb2.mono (by omega)).trans (hb3.mono (by omega))).trans (hb4 B (by omega))).trans (hb5.mono (by omega))).trans (hb6 B hB)).trans (hb7 B (by omega))
      · intro k hk hkl
        rw [hk7 k (by omega), hk6 k hk, hb5.block k (by omega), hk4 k (by omega), hb3.block k (by omega), hb2.block k hkl]
end Go.Proofs.Qxb6001692a
