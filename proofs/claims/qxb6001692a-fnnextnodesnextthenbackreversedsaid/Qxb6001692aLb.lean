import Derived.Test.Qxb6001692aLc
namespace Go.Proofs.Qxb6001692a
open Go.ChangeShapes Go.WideShapes Go.ChangeAt Go.RowKit
set_option linter.unusedVariables false

set_option maxRecDepth 100000 in
set_option maxHeartbeats 4000000 in
theorem law_any (a b : Option Addr) (ss ts : List ByteArray) (c d : Nat) (w : World) (hs : SlS w a ss) (ht : SlS w b ts) (hna : a = none → ss = []) (hnb : b = none → ts = []) (hm : ss.length ≤ maxLen) (hn : ts.length ≤ maxLen) :
    Calls Try.prog 7 #[.slice a ss.length c, .slice b ts.length d] w fun e w' => e = .returned (.bool true) ∧ Below w.heap.size w w' := by
  have t1 : True := trivial
  have t2 : True := trivial
  have t3 : True := trivial
  have t4 : True := trivial
  by_cases hss : ss.length ≤ 4096
  · by_cases hts : ts.length ≤ 4096
    · go_enter Try.func7, Try.ntmps7
      go_wp2_with (first
        | (go_at_call 14; refine (zzBytes_any a b ss ts c d _ hs ht hm hn).mono ?_; rintro e w ⟨⟨z, rfl⟩, rfl⟩)
        | (have _t := t1; go_at_call 15; refine (stringBytes_any a ss c _ hs hm).mono ?_; rintro e w ⟨⟨z1, rfl⟩, rfl⟩; clear t1 _t)
        | (have _t := t2; go_at_call 15; refine (stringBytes_any b ts d _ ht hn).mono ?_; rintro e w ⟨⟨z2, rfl⟩, rfl⟩; clear t2 _t)
        | (have _t := t3; go_at_call 16; refine (clone_any a ss c _ hs hna (by omega)).mono ?_; rintro e w1 ⟨a1, ⟨c1, rfl⟩, hb1, hs1⟩; clear t3 _t)
        | (have _t := t4; go_at_call 16; refine (clone_any b ts d _ (SlS.via hb1 ht) hnb (by omega)).mono ?_; rintro e w2 ⟨a2, ⟨c2, rfl⟩, hb2, ht2⟩; have hs2 := SlS.via hb2 hs1; clear t4 _t)
        | (refine wpl_make39 rfl rfl ss.length rfl rfl (by omega) ?_; intro gn w3 hn3 hb3 hl3; simp only [Act.put, List.setIfInBounds_toArray, List.set_cons_zero, List.set_cons_succ]))
      all_goals first
        | (go_ret; exact ⟨rfl, Below.refl _ _⟩)
        | skip
      have hbw2 := Below.chain hb1 hb2
      clear hs ht hna hnb hm hn hs1
      go_loopw [6] (fun i wr => ∃ k : Nat, k ≤ ss.length ∧ i = .int .i64 (k : Int) ∧ Blk wr gn (pfill (mkp ss 0) k) ∧ Below w2.heap.size w2 wr) (fun i _ => (ss.length - intOf i).toNat)
      case atStart => exact ⟨0, by omega, rfl, by rw [pfill_zero, mkp_length]; exact hn3, hb3⟩
      case round =>
        obtain ⟨k, hk, rfl, hbk, hbe⟩ := hrel
        by_cases hlt : k < ss.length
        · have hki : (k : Int) < (ss.length : Int) := by omega
          have hk0 : (0 : Int) ≤ (k : Int) := by omega
          obtain ⟨p, hpa, hpb, hpc⟩ := hs2 k hlt
          subst hpa
          obtain ⟨s, hsk⟩ : ∃ s, ss.getD k ByteArray.empty = s := ⟨_, rfl⟩
          rw [hsk] at hpc
          have hpc' := (hbe.cell (p := p.add k) (by rw [Addr.add_block]; exact hpb)).trans hpc
          have hpb' := Nat.lt_of_lt_of_le hpb hbe.size
          have hid : Id20 (tg (k : Int) 0) := tg_id (by omega) (by omega) (by omega) (by omega)
          have hmk : (mkp ss 0)[k]? = some (s, tg (k : Int) 0) := by rw [mkp_get ss 0 hlt, hsk]
          have HK : Hid (pcs ((mkp ss 0).take k) ++ (pc (s, tg (k : Int) 0) ++ pcs (List.replicate ((mkp ss 0).length - (k + 1)) zp)) = pfill (mkp ss 0) (k + 1)) := pfill_succ _ k _ hmk
          rw [pfill_at _ k (by rw [mkp_length]; exact hlt)] at hbk
          have hpl : (pcs ((mkp ss 0).take k)).length = k * 21 := by
            rw [pcs_length fun x hx => mkp_id ss (s := 0) (by omega) (by omega) (by omega) x (List.mem_of_mem_take hx), List.length_take, mkp_length, Nat.min_eq_left hk]
          clear hsk hmk hpc
          go_wp2
          refine wp_region_dag2 10 [.slice (some ⟨gn, 0, none⟩) ss.length ss.length, .int .i64 (k : Int), .slice (some p) ss.length c1, .int .i64 (k : Int), .pointer (some (p.add k)), .string s, .int .i64 (k : Int), .agg (idc (tg (k : Int) 0)), .agg (pc (s, tg (k : Int) 0)).toArray, .pointer (some ⟨gn, k * 21, none⟩)] 99 (fun _ w' => Ext wr w')
            (by kernel_rfl) (by kernel_rfl) rfl (by kernel_rfl) ((Below.refl _ _).drew) ?_ ?_
          · simp only [puts, Act.put, List.setIfInBounds_toArray, List.set_cons_zero, List.set_cons_succ]
            refine ⟨?_, ?_, ?_, ?_, ?_, ?_, ?_, ?_, ?_, ?_, trivial⟩
            · exact step_val rfl fun _ _ _ => run_move rfl rfl
            · exact step_val rfl fun _ _ _ => run_move rfl rfl
            · exact step_val rfl fun _ _ _ => run_move rfl rfl
            · exact step_val rfl fun _ _ _ => run_move rfl rfl
            · exact step_val rfl fun _ _ _ => (run_index Try.underlying33 size9 rfl rfl rfl hk0 hki).trans (by rw [Nat.mul_one]; rfl)
            · exact step_val rfl fun _ w' h => run_load9 rfl rfl ((h.cell (p := p.add k) (by rw [Addr.add_block]; exact hpb')).trans hpc')
            · exact step_val rfl fun _ _ _ => run_move rfl rfl
            · exact step_call rfl 18 #[.int .i64 (k : Int), .int .i64 0] (fun _ => run_call rfl rfl (by simp [Act.eval]) Try.func18 (by kernel_rfl) (by kernel_rfl)) fun _ w' h => (tagID_any (k : Int) 0 (by omega) (by omega) (by omega) (by omega) w').mono fun e w'' ⟨he, hb⟩ => ⟨he, Below.chain h hb⟩
            · exact step_call rfl 17 #[.string s, .agg (idc (tg (k : Int) 0))] (fun _ => run_call rfl rfl (by simp [Act.eval]) Try.func17 (by kernel_rfl) (by kernel_rfl)) fun _ w' h => (makePeer_any s (tg (k : Int) 0) hid w').mono fun e w'' ⟨he, hb⟩ => ⟨he, Below.chain h hb⟩
            · exact step_val rfl fun _ _ _ => (run_index Try.underlying37 size39 rfl rfl rfl hk0 hki).trans (by rw [Addr.add_mid, Nat.zero_add]; rfl)
          · simp only [puts, Act.put, List.setIfInBounds_toArray, List.set_cons_zero, List.set_cons_succ]
            intro _ w5 hb5 _
            refine wpl_store39m rfl _ _ rfl gn _ _ zp (s, tg (k : Int) 0) (by rw [hpl]; rfl) rfl hid.1 zeros_id.1 (Blk.via hb5 hbk) ?_
            intro w6 hs6 hb6 hk6
            simp only [Act.put]
            go_wp2
            go_roundw
            case rel => exact ⟨k + 1, by omega, by go_num, HK.out ▸ hs6, (hbe.trans (Below.mono hb5 hbe.size)).trans (hb6 _ hl3)⟩
            case measure => simp [intOf]; omega
        · have hke : k = ss.length := by omega
          subst hke
          have hfull1 : Blk wr gn (pcs (mkp ss 0)) := by rw [← pfill_all, mkp_length]; exact hbk
          clear hbk
          obtain ⟨w4, hw4⟩ : ∃ w4, w4 = wr := ⟨_, rfl⟩
          subst hw4
          have hbe4 := hbe
          clear hbe
          have hs4 := SlS.via hbe4 hs2
          have ht2x := SlS.via hbe4 ht2
          go_wp2_with (refine wpl_make39 rfl rfl ts.length rfl rfl (by omega) ?_; intro gb w5 hn5 hbx hlx; simp only [Act.put, List.setIfInBounds_toArray, List.set_cons_zero, List.set_cons_succ])
          go_loopw [8] (fun i wr => ∃ k : Nat, k ≤ ts.length ∧ i = .int .i64 (k : Int) ∧ Blk wr gb (pfill (mkp ts 1) k) ∧ Below w4.heap.size w4 wr) (fun i _ => (ts.length - intOf i).toNat)
          case atStart => exact ⟨0, by omega, rfl, by rw [pfill_zero, mkp_length]; exact hn5, hbx⟩
          case round =>
            obtain ⟨k, hk, rfl, hbk, hbe⟩ := hrel
            by_cases hlt : k < ts.length
            · have hki : (k : Int) < (ts.length : Int) := by omega
              have hk0 : (0 : Int) ≤ (k : Int) := by omega
              obtain ⟨p, hpa, hpb, hpc⟩ := ht2x k hlt
              subst hpa
              obtain ⟨s, hsk⟩ : ∃ s, ts.getD k ByteArray.empty = s := ⟨_, rfl⟩
              rw [hsk] at hpc
              have hpc' := (hbe.cell (p := p.add k) (by rw [Addr.add_block]; exact hpb)).trans hpc
              have hpb' := Nat.lt_of_lt_of_le hpb hbe.size
              have hid : Id20 (tg (k : Int) 1) := tg_id (by omega) (by omega) (by omega) (by omega)
              have hmk : (mkp ts 1)[k]? = some (s, tg (k : Int) 1) := by rw [mkp_get ts 1 hlt, hsk]
              have HK : Hid (pcs ((mkp ts 1).take k) ++ (pc (s, tg (k : Int) 1) ++ pcs (List.replicate ((mkp ts 1).length - (k + 1)) zp)) = pfill (mkp ts 1) (k + 1)) := pfill_succ _ k _ hmk
              rw [pfill_at _ k (by rw [mkp_length]; exact hlt)] at hbk
              have hpl : (pcs ((mkp ts 1).take k)).length = k * 21 := by
                rw [pcs_length fun x hx => mkp_id ts (s := 1) (by omega) (by omega) (by omega) x (List.mem_of_mem_take hx), List.length_take, mkp_length, Nat.min_eq_left hk]
              clear hsk hmk hpc
              go_wp2
              refine wp_region_dag2 10 [.slice (some ⟨gb, 0, none⟩) ts.length ts.length, .int .i64 (k : Int), .slice (some p) ts.length c2, .int .i64 (k : Int), .pointer (some (p.add k)), .string s, .int .i64 (k : Int), .agg (idc (tg (k : Int) 1)), .agg (pc (s, tg (k : Int) 1)).toArray, .pointer (some ⟨gb, k * 21, none⟩)] 99 (fun _ w' => Ext wr w')
                (by kernel_rfl) (by kernel_rfl) rfl (by kernel_rfl) ((Below.refl _ _).drew) ?_ ?_
              · simp only [puts, Act.put, List.setIfInBounds_toArray, List.set_cons_zero, List.set_cons_succ]
                refine ⟨?_, ?_, ?_, ?_, ?_, ?_, ?_, ?_, ?_, ?_, trivial⟩
                · exact step_val rfl fun _ _ _ => run_move rfl rfl
                · exact step_val rfl fun _ _ _ => run_move rfl rfl
                · exact step_val rfl fun _ _ _ => run_move rfl rfl
                · exact step_val rfl fun _ _ _ => run_move rfl rfl
                · exact step_val rfl fun _ _ _ => (run_index Try.underlying33 size9 rfl rfl rfl hk0 hki).trans (by rw [Nat.mul_one]; rfl)
                · exact step_val rfl fun _ w' h => run_load9 rfl rfl ((h.cell (p := p.add k) (by rw [Addr.add_block]; exact hpb')).trans hpc')
                · exact step_val rfl fun _ _ _ => run_move rfl rfl
                · exact step_call rfl 18 #[.int .i64 (k : Int), .int .i64 1] (fun _ => run_call rfl rfl (by simp [Act.eval]) Try.func18 (by kernel_rfl) (by kernel_rfl)) fun _ w' h => (tagID_any (k : Int) 1 (by omega) (by omega) (by omega) (by omega) w').mono fun e w'' ⟨he, hb⟩ => ⟨he, Below.chain h hb⟩
                · exact step_call rfl 17 #[.string s, .agg (idc (tg (k : Int) 1))] (fun _ => run_call rfl rfl (by simp [Act.eval]) Try.func17 (by kernel_rfl) (by kernel_rfl)) fun _ w' h => (makePeer_any s (tg (k : Int) 1) hid w').mono fun e w'' ⟨he, hb⟩ => ⟨he, Below.chain h hb⟩
                · exact step_val rfl fun _ _ _ => (run_index Try.underlying37 size39 rfl rfl rfl hk0 hki).trans (by rw [Addr.add_mid, Nat.zero_add]; rfl)
              · simp only [puts, Act.put, List.setIfInBounds_toArray, List.set_cons_zero, List.set_cons_succ]
                intro _ w5 hb5 _
                refine wpl_store39m rfl _ _ rfl gb _ _ zp (s, tg (k : Int) 1) (by rw [hpl]; rfl) rfl hid.1 zeros_id.1 (Blk.via hb5 hbk) ?_
                intro w6 hs6 hb6 hk6
                simp only [Act.put]
                go_wp2
                go_roundw
                case rel => exact ⟨k + 1, by omega, by go_num, HK.out ▸ hs6, (hbe.trans (Below.mono hb5 hbe.size)).trans (hb6 _ hlx)⟩
                case measure => simp [intOf]; omega
            · have hke : k = ts.length := by omega
              subst hke
              have hfull2 : Blk wr gb (pcs (mkp ts 1)) := by rw [← pfill_all, mkp_length]; exact hbk
              clear hbk
              obtain ⟨w6, hw6⟩ : ∃ w6, w6 = wr := ⟨_, rfl⟩
              subst hw6
              have hbe6 := hbe
              clear hbe
              have hbw6 : Below w.heap.size w w6 := Below.chain (Below.chain hbw2 hbe4) hbe6
              have hs6 := SlS.via hbe6 hs4
              have ht6 := SlS.via hbe6 ht2x
              have hf1 := Blk.via hbe6 hfull1
              have hf2 := hfull2
              clear hn5 hbx hlx hn3 hb3 hl3 hfull1 hfull2 hs4 ht2x hs2 ht2 hbe4 hbe6
              go_wp2_with (first
                | (go_at_call 19; refine (nn_call ss ts hss hts gn gb _ hf1 hf2).mono ?_; rintro e w7 ⟨ag, ⟨cg, rfl⟩, hb7, hg7⟩)
                | (go_at_call 20; refine (ad_call ss ts hss hts ag cg _ hg7).mono ?_; rintro e w8 ⟨ga, rfl, hb8, hga8⟩))
              have hg8 := hg7.below hb8
              have hs8 := SlS.via (Below.chain hb7 hb8) hs6
              have ht8 := SlS.via (Below.chain hb7 hb8) ht6
              have hbw8 := Below.chain hbw6 (Below.chain hb7 hb8)
              have has8 := SlS.of_blk hga8
              have hgl : w7.heap.size ≤ w8.heap.size := hb8.size
              clear hg7 hga8 hf1 hf2 hs6 ht6 hbw6
              go_loopw [12] (fun i wr => ∃ k : Nat, k ≤ ss.length ∧ i = .int .i64 (k : Int) ∧ Below w8.heap.size w8 wr) (fun i _ => (ss.length - intOf i).toNat)
              case atStart => exact ⟨0, by omega, rfl, Below.refl _ _⟩
              case round =>
                obtain ⟨k, hk, rfl, hbe⟩ := hrel
                by_cases hlt : k < ss.length
                · have hki : (k : Int) < (ss.length : Int) := by omega
                  have hk0 : (0 : Int) ≤ (k : Int) := by omega
                  have hkN : (k : Int) < ((ss.length + ts.length : Nat) : Int) := by omega
                  obtain ⟨ii, hii0⟩ : ∃ ii, ii = k := ⟨_, rfl⟩
                  obtain ⟨kk, hkk0⟩ : ∃ kk, kk = k := ⟨_, rfl⟩
                  have hIn : (k : Int).toNat = ii := by omega
                  have hKn : (k : Int).toNat = kk := by omega
                  obtain ⟨s, hss2⟩ : ∃ s, ss.getD ii ByteArray.empty = s := ⟨_, rfl⟩
                  have hii : ii < ss.length := by omega
                  have hkk : kk < (ss ++ ts.reverse).length := by simp; omega
                  have hgot : (gotP ss ts)[kk]? = some (s, tg (k : Int) 0) := by rw [hkk0, gotP_front ss ts hlt, ← hii0, hss2]
                  have hstr : (ss ++ ts.reverse).getD kk ByteArray.empty = s := by
                    rw [← hss2, List.getD_eq_getElem?_getD, List.getElem?_append_left (by omega), List.getD_eq_getElem?_getD, hkk0, hii0]
                  obtain ⟨p, hpa, hpb, hpc⟩ := hs8 ii hii
                  subst hpa
                  obtain ⟨gg, off, hag, hggl, hrg, hid⟩ := hg8.get hgot
                  subst hag
                  obtain ⟨pa, hpa2, hgab0, hac0⟩ := has8 kk hkk
                  obtain rfl := Option.some.inj hpa2
                  rw [hstr, Addr.add_mid, Nat.zero_add] at hac0
                  rw [hss2] at hpc
                  have hpc' := (hbe.cell (p := p.add ii) (by rw [Addr.add_block]; exact hpb)).trans hpc
                  have hpb' := Nat.lt_of_lt_of_le hpb hbe.size
                  have hac := (hbe.cell (p := ⟨ga, kk, none⟩) hgab0).trans hac0
                  have hgab := Nat.lt_of_lt_of_le hgab0 hbe.size
                  have hggl' : gg < wr.heap.size := Nat.lt_of_lt_of_le (Nat.lt_of_lt_of_le hggl hgl) hbe.size
                  have hrg' := rangeAt_block (hbe.block gg (Nat.lt_of_lt_of_le hggl hgl)) hrg
                  clear hpc hac0 hpb hgab0 hrg hgot hstr hss2
                  go_wp2
                  refine wp_region_ext (by kernel_rfl) (by kernel_rfl) ?_
                  refine wq_val rfl (.slice (some ⟨ga, 0, none⟩) (ss.length + ts.length) (ss.length + ts.length)) (fun _ => run_move rfl rfl) ?_; simp only [Act.put, List.setIfInBounds_toArray, List.set_cons_zero, List.set_cons_succ]
                  refine wq_val rfl (.int .i64 (k : Int)) (fun _ => run_move rfl rfl) ?_; simp only [Act.put, List.setIfInBounds_toArray, List.set_cons_zero, List.set_cons_succ]
                  refine wq_val rfl (.pointer (some ⟨ga, kk, none⟩)) (fun _ => (run_index Try.underlying33 size9 rfl rfl rfl hk0 hkN).trans (by rw [hKn, Addr.add_mid, Nat.zero_add, Nat.mul_one])) ?_; simp only [Act.put, List.setIfInBounds_toArray, List.set_cons_zero, List.set_cons_succ]
                  refine wq_at rfl (.string s) (fun w' hw => run_load9 rfl rfl ((hw.cell (p := ⟨ga, kk, none⟩) hgab).trans hac)) ?_; simp only [Act.put, List.setIfInBounds_toArray, List.set_cons_zero, List.set_cons_succ]
                  refine wq_val rfl (.slice (some p) ss.length c1) (fun _ => run_move rfl rfl) ?_; simp only [Act.put, List.setIfInBounds_toArray, List.set_cons_zero, List.set_cons_succ]
                  refine wq_val rfl (.int .i64 (k : Int)) (fun _ => run_move rfl rfl) ?_; simp only [Act.put, List.setIfInBounds_toArray, List.set_cons_zero, List.set_cons_succ]
                  refine wq_val rfl (.pointer (some (p.add ii))) (fun _ => (run_index Try.underlying33 size9 rfl rfl rfl hk0 hki).trans (by rw [hIn, Nat.mul_one])) ?_; simp only [Act.put, List.setIfInBounds_toArray, List.set_cons_zero, List.set_cons_succ]
                  refine wq_at rfl (.string s) (fun w' hw => run_load9 rfl rfl ((hw.cell (p := p.add ii) (by rw [Addr.add_block]; exact hpb')).trans hpc')) ?_; simp only [Act.put, List.setIfInBounds_toArray, List.set_cons_zero, List.set_cons_succ]
                  refine wq_val rfl (.bool false) (fun _ => run_neq9 rfl rfl rfl) ?_; simp only [Act.put, List.setIfInBounds_toArray, List.set_cons_zero, List.set_cons_succ]
                  refine wq_val rfl (.bool false) (fun _ => run_move rfl rfl) ?_; simp only [Act.put, List.setIfInBounds_toArray, List.set_cons_zero, List.set_cons_succ]
                  refine wq_val rfl (.slice (some ⟨gg, off, none⟩) (ss.length + ts.length) cg) (fun _ => run_move rfl rfl) ?_; simp only [Act.put, List.setIfInBounds_toArray, List.set_cons_zero, List.set_cons_succ]
                  refine wq_val rfl (.int .i64 (k : Int)) (fun _ => run_move rfl rfl) ?_; simp only [Act.put, List.setIfInBounds_toArray, List.set_cons_zero, List.set_cons_succ]
                  refine wq_val rfl (.pointer (some ⟨gg, off + kk * 21, none⟩)) (fun _ => (run_index Try.underlying37 size39 rfl rfl rfl hk0 hkN).trans (by rw [hKn, Addr.add_mid])) ?_; simp only [Act.put, List.setIfInBounds_toArray, List.set_cons_zero, List.set_cons_succ]
                  refine wq_at rfl (.agg (pc (s, tg (k : Int) 0)).toArray) (fun w' hw => run_load39 _ rfl gg _ rfl (s, tg (k : Int) 0) hid.1 (rangeAt_block (hw.block gg hggl') hrg')) ?_; simp only [Act.put, List.setIfInBounds_toArray, List.set_cons_zero, List.set_cons_succ]
                  refine wq_call rfl (.agg (idc (tg (k : Int) 0))) 21 #[.agg (pc (s, tg (k : Int) 0)).toArray] (fun _ => run_call rfl rfl (by simp [Act.eval]) Try.func21 (by kernel_rfl) (by kernel_rfl)) (fun W _ => peerID_any s (tg (k : Int) 0) hid W) ?_; simp only [Act.put, List.setIfInBounds_toArray, List.set_cons_zero, List.set_cons_succ]
                  refine wq_val rfl (.int .i64 (k : Int)) (fun _ => run_move rfl rfl) ?_; simp only [Act.put, List.setIfInBounds_toArray, List.set_cons_zero, List.set_cons_succ]
                  refine wq_call rfl (.agg (idc (tg (k : Int) 0))) 18 #[.int .i64 (k : Int), .int .i64 0] (fun _ => run_call rfl rfl (by simp [Act.eval]) Try.func18 (by kernel_rfl) (by kernel_rfl)) (fun W _ => tagID_any (k : Int) 0 (by omega) (by omega) (by omega) (by omega) W) ?_; simp only [Act.put, List.setIfInBounds_toArray, List.set_cons_zero, List.set_cons_succ]
                  refine wq_val rfl (.bool false) (fun _ => run_neq26 rfl rfl rfl hid) ?_; simp only [Act.put, List.setIfInBounds_toArray, List.set_cons_zero, List.set_cons_succ]
                  refine wq_val rfl (.bool false) (fun _ => run_pickF rfl rfl rfl) ?_; simp only [Act.put, List.setIfInBounds_toArray, List.set_cons_zero, List.set_cons_succ]
                  refine wq_nil ?_
                  intro w9 hb9
                  go_wp2
                  go_roundw
                  case rel => exact ⟨k + 1, by omega, by go_num, hbe.trans (Below.mono hb9 hbe.size)⟩
                  case measure => simp [intOf]; omega
                · have hke : k = ss.length := by omega
                  subst hke
                  obtain ⟨w9, hw9⟩ : ∃ w9, w9 = wr := ⟨_, rfl⟩
                  subst hw9
                  have hbe9 := hbe
                  clear hbe
                  go_wp2
                  go_loopw [13] (fun i wr => ∃ k : Nat, k ≤ ts.length ∧ i = .int .i64 (k : Int) ∧ Below w8.heap.size w8 wr) (fun i _ => (ts.length - intOf i).toNat)
                  case atStart => exact ⟨0, by omega, rfl, hbe9⟩
                  case round =>
                    obtain ⟨k, hk, rfl, hbe⟩ := hrel
                    by_cases hlt : k < ts.length
                    · have hki : (k : Int) < (ts.length : Int) := by omega
                      have hi0 : (0 : Int) ≤ ((ts.length : Int) - 1 - (k : Int)) := by omega
                      have hi1 : ((ts.length : Int) - 1 - (k : Int)) < (ts.length : Int) := by omega
                      have hk0 : (0 : Int) ≤ ((ss.length : Int) + (k : Int)) := by omega
                      have hkN : ((ss.length : Int) + (k : Int)) < ((ss.length + ts.length : Nat) : Int) := by omega
                      obtain ⟨ii, hii0⟩ : ∃ ii, ii = ts.length - 1 - k := ⟨_, rfl⟩
                      obtain ⟨kk, hkk0⟩ : ∃ kk, kk = ss.length + k := ⟨_, rfl⟩
                      have hIn : ((ts.length : Int) - 1 - (k : Int)).toNat = ii := by omega
                      have hKn : ((ss.length : Int) + (k : Int)).toNat = kk := by omega
                      obtain ⟨s, hss2⟩ : ∃ s, ts.getD ii ByteArray.empty = s := ⟨_, rfl⟩
                      have hii : ii < ts.length := by omega
                      have hkk : kk < (ss ++ ts.reverse).length := by simp; omega
                      have hgot : (gotP ss ts)[kk]? = some (s, tg ((ts.length : Int) - 1 - (k : Int)) 1) := by
                        rw [hkk0, gotP_back ss ts hlt, ← hii0, hss2, show ((ii : Nat) : Int) = ((ts.length : Int) - 1 - (k : Int)) by omega]
                      have hstr : (ss ++ ts.reverse).getD kk ByteArray.empty = s := by
                        rw [← hss2, List.getD_eq_getElem?_getD, List.getElem?_append_right (by omega), List.getElem?_reverse (by omega), List.getD_eq_getElem?_getD, hkk0, Nat.add_sub_cancel_left, hii0]
                      obtain ⟨p, hpa, hpb, hpc⟩ := ht8 ii hii
                      subst hpa
                      obtain ⟨gg, off, hag, hggl, hrg, hid⟩ := hg8.get hgot
                      subst hag
                      obtain ⟨pa, hpa2, hgab0, hac0⟩ := has8 kk hkk
                      obtain rfl := Option.some.inj hpa2
                      rw [hstr, Addr.add_mid, Nat.zero_add] at hac0
                      rw [hss2] at hpc
                      have hpc' := (hbe.cell (p := p.add ii) (by rw [Addr.add_block]; exact hpb)).trans hpc
                      have hpb' := Nat.lt_of_lt_of_le hpb hbe.size
                      have hac := (hbe.cell (p := ⟨ga, kk, none⟩) hgab0).trans hac0
                      have hgab := Nat.lt_of_lt_of_le hgab0 hbe.size
                      have hggl' : gg < wr.heap.size := Nat.lt_of_lt_of_le (Nat.lt_of_lt_of_le hggl hgl) hbe.size
                      have hrg' := rangeAt_block (hbe.block gg (Nat.lt_of_lt_of_le hggl hgl)) hrg
                      clear hpc hac0 hpb hgab0 hrg hgot hstr hss2
                      go_wp2
                      refine wp_region_ext (by kernel_rfl) (by kernel_rfl) ?_
                      refine wq_val rfl (.slice (some ⟨ga, 0, none⟩) (ss.length + ts.length) (ss.length + ts.length)) (fun _ => run_move rfl rfl) ?_; simp only [Act.put, List.setIfInBounds_toArray, List.set_cons_zero, List.set_cons_succ]
                      refine wq_val rfl (.int .i64 ((ss.length : Int) + (k : Int))) (fun _ => run_move rfl rfl) ?_; simp only [Act.put, List.setIfInBounds_toArray, List.set_cons_zero, List.set_cons_succ]
                      refine wq_val rfl (.pointer (some ⟨ga, kk, none⟩)) (fun _ => (run_index Try.underlying33 size9 rfl rfl rfl hk0 hkN).trans (by rw [hKn, Addr.add_mid, Nat.zero_add, Nat.mul_one])) ?_; simp only [Act.put, List.setIfInBounds_toArray, List.set_cons_zero, List.set_cons_succ]
                      refine wq_at rfl (.string s) (fun w' hw => run_load9 rfl rfl ((hw.cell (p := ⟨ga, kk, none⟩) hgab).trans hac)) ?_; simp only [Act.put, List.setIfInBounds_toArray, List.set_cons_zero, List.set_cons_succ]
                      refine wq_val rfl (.slice (some p) ts.length c2) (fun _ => run_move rfl rfl) ?_; simp only [Act.put, List.setIfInBounds_toArray, List.set_cons_zero, List.set_cons_succ]
                      refine wq_val rfl (.int .i64 ((ts.length : Int) - 1 - (k : Int))) (fun _ => run_move rfl rfl) ?_; simp only [Act.put, List.setIfInBounds_toArray, List.set_cons_zero, List.set_cons_succ]
                      refine wq_val rfl (.pointer (some (p.add ii))) (fun _ => (run_index Try.underlying33 size9 rfl rfl rfl hi0 hi1).trans (by rw [hIn, Nat.mul_one])) ?_; simp only [Act.put, List.setIfInBounds_toArray, List.set_cons_zero, List.set_cons_succ]
                      refine wq_at rfl (.string s) (fun w' hw => run_load9 rfl rfl ((hw.cell (p := p.add ii) (by rw [Addr.add_block]; exact hpb')).trans hpc')) ?_; simp only [Act.put, List.setIfInBounds_toArray, List.set_cons_zero, List.set_cons_succ]
                      refine wq_val rfl (.bool false) (fun _ => run_neq9 rfl rfl rfl) ?_; simp only [Act.put, List.setIfInBounds_toArray, List.set_cons_zero, List.set_cons_succ]
                      refine wq_val rfl (.bool false) (fun _ => run_move rfl rfl) ?_; simp only [Act.put, List.setIfInBounds_toArray, List.set_cons_zero, List.set_cons_succ]
                      refine wq_val rfl (.slice (some ⟨gg, off, none⟩) (ss.length + ts.length) cg) (fun _ => run_move rfl rfl) ?_; simp only [Act.put, List.setIfInBounds_toArray, List.set_cons_zero, List.set_cons_succ]
                      refine wq_val rfl (.int .i64 ((ss.length : Int) + (k : Int))) (fun _ => run_move rfl rfl) ?_; simp only [Act.put, List.setIfInBounds_toArray, List.set_cons_zero, List.set_cons_succ]
                      refine wq_val rfl (.pointer (some ⟨gg, off + kk * 21, none⟩)) (fun _ => (run_index Try.underlying37 size39 rfl rfl rfl hk0 hkN).trans (by rw [hKn, Addr.add_mid])) ?_; simp only [Act.put, List.setIfInBounds_toArray, List.set_cons_zero, List.set_cons_succ]
                      refine wq_at rfl (.agg (pc (s, tg ((ts.length : Int) - 1 - (k : Int)) 1)).toArray) (fun w' hw => run_load39 _ rfl gg _ rfl (s, tg ((ts.length : Int) - 1 - (k : Int)) 1) hid.1 (rangeAt_block (hw.block gg hggl') hrg')) ?_; simp only [Act.put, List.setIfInBounds_toArray, List.set_cons_zero, List.set_cons_succ]
                      refine wq_call rfl (.agg (idc (tg ((ts.length : Int) - 1 - (k : Int)) 1))) 21 #[.agg (pc (s, tg ((ts.length : Int) - 1 - (k : Int)) 1)).toArray] (fun _ => run_call rfl rfl (by simp [Act.eval]) Try.func21 (by kernel_rfl) (by kernel_rfl)) (fun W _ => peerID_any s (tg ((ts.length : Int) - 1 - (k : Int)) 1) hid W) ?_; simp only [Act.put, List.setIfInBounds_toArray, List.set_cons_zero, List.set_cons_succ]
                      refine wq_val rfl (.int .i64 ((ts.length : Int) - 1 - (k : Int))) (fun _ => run_move rfl rfl) ?_; simp only [Act.put, List.setIfInBounds_toArray, List.set_cons_zero, List.set_cons_succ]
                      refine wq_call rfl (.agg (idc (tg ((ts.length : Int) - 1 - (k : Int)) 1))) 18 #[.int .i64 ((ts.length : Int) - 1 - (k : Int)), .int .i64 1] (fun _ => run_call rfl rfl (by simp [Act.eval]) Try.func18 (by kernel_rfl) (by kernel_rfl)) (fun W _ => tagID_any ((ts.length : Int) - 1 - (k : Int)) 1 (by omega) (by omega) (by omega) (by omega) W) ?_; simp only [Act.put, List.setIfInBounds_toArray, List.set_cons_zero, List.set_cons_succ]
                      refine wq_val rfl (.bool false) (fun _ => run_neq26 rfl rfl rfl hid) ?_; simp only [Act.put, List.setIfInBounds_toArray, List.set_cons_zero, List.set_cons_succ]
                      refine wq_val rfl (.bool false) (fun _ => run_pickF rfl rfl rfl) ?_; simp only [Act.put, List.setIfInBounds_toArray, List.set_cons_zero, List.set_cons_succ]
                      refine wq_nil ?_
                      intro w10 hb10
                      go_wp2
                      go_roundw
                      case rel => exact ⟨k + 1, by omega, by go_num, hbe.trans (Below.mono hb10 hbe.size)⟩
                      case measure => simp [intOf]; omega
                    · have hke : k = ts.length := by omega
                      subst hke
                      go_wp2
                      go_ret
                      exact ⟨rfl, Below.chain hbw8 hbe⟩
    · have h1 : (4096 : Int) < (ts.length : Int) := by omega
      go_enter Try.func7, Try.ntmps7
      go_wp2_with (first
        | (go_at_call 14; refine (zzBytes_any a b ss ts c d _ hs ht hm hn).mono ?_; rintro e w ⟨⟨z, rfl⟩, rfl⟩)
        | (have _t := t1; go_at_call 15; refine (stringBytes_any a ss c _ hs hm).mono ?_; rintro e w ⟨⟨z1, rfl⟩, rfl⟩; clear t1 _t)
        | (have _t := t2; go_at_call 15; refine (stringBytes_any b ts d _ ht hn).mono ?_; rintro e w ⟨⟨z2, rfl⟩, rfl⟩; clear t2 _t))
      all_goals (go_ret; exact ⟨rfl, Below.refl _ _⟩)
  · have h1 : (4096 : Int) < (ss.length : Int) := by omega
    go_enter Try.func7, Try.ntmps7
    go_wp2_with (first
      | (go_at_call 14; refine (zzBytes_any a b ss ts c d _ hs ht hm hn).mono ?_; rintro e w ⟨⟨z, rfl⟩, rfl⟩)
      | (have _t := t1; go_at_call 15; refine (stringBytes_any a ss c _ hs hm).mono ?_; rintro e w ⟨⟨z1, rfl⟩, rfl⟩; clear t1 _t)
      | (have _t := t2; go_at_call 15; refine (stringBytes_any b ts d _ ht hn).mono ?_; rintro e w ⟨⟨z2, rfl⟩, rfl⟩; clear t2 _t))
    all_goals (go_ret; exact ⟨rfl, Below.refl _ _⟩)
end Go.Proofs.Qxb6001692a
