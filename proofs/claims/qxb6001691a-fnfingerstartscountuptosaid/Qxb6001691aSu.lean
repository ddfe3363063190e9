import Derived.Test.Qxb6001691aEq
import Derived.Lib.BitFns
namespace Go.Proofs.Qxb6001691a
open Go.ChangeShapes Go.WideShapes Go.ChangeAt Go.RowKit

theorem bl_spec : ∀ n : Fin 256, n.val ≠ 0 → 1 ≤ Lib.bitLen n.val ∧ Lib.bitLen n.val ≤ 8 ∧ 2 ^ (Lib.bitLen n.val - 1) ≤ n.val ∧ n.val < 2 ^ Lib.bitLen n.val := by decide +kernel
theorem wpl_val {P : Program} {ops : Array Oper} {rest : List Oper} {o : Oper} {a : Act} {w : World} {Q : Exit → Act → World → Prop} (hgd : o.guard = none) (v : Value) (hr : (execOp a.eval o).run P w = .ok (.value v) w)
    (h : wpList P ops Q rest (a.put o.dst v) w) : wpList P ops Q (o :: rest) a w :=
  wpList_plain hgd fun _ hK => by unfold Oper.wp; rw [hr]; exact hK _ _ h
theorem run_len8 {a : Act} {o : Oper} {w : World} {y : Operand} {S : ByteArray} {x : Int} (ho : o.op = .index 9 (.const (.string S)) y) (hS : S = Lib.len8tab) (hy : a.eval y = .int .u8 x) (h0 : 0 ≤ x) (h1 : x ≤ 255) :
    (execOp a.eval o).run Try.prog w = .ok (.value (.int .u8 (Lib.len8 x))) w := by
  unfold execOp
  simp only [ho]
  rw [hy]
  have : a.eval (.const (.string S)) = .string Lib.len8tab := by rw [hS]; rfl
  rw [this, Sem.run_bind, Lib.run_index_len8tab w 9 .u8 x Try.underlying9 h0 h1]
  rfl
set_option maxRecDepth 100000 in
theorem len8_any (x : Int) (w : World) (h0 : 0 ≤ x) (h1 : x ≤ 255) :
    Calls Try.prog 41 #[.int .u8 x] w fun e w' => e = .returned (.int .i64 (Lib.bitLen x.toNat)) ∧ w' = w := by
  have e1 := Lib.len8_eq ⟨x.toNat, by omega⟩
  have e2 := Lib.bitLen_le8 ⟨x.toNat, by omega⟩
  simp only [Int.toNat_of_nonneg h0] at e1 e2
  have l0 : 0 ≤ Lib.len8 x := by omega
  have l1 : Lib.len8 x ≤ 8 := by omega
  rw [← e1]
  clear e1 e2
  go_enter Try.func41, Try.ntmps41
  go_wp2_with (refine wpl_val rfl _ (run_len8 rfl ?_ rfl h0 h1) ?_; (focus kernel_rfl); simp only [Act.put, List.setIfInBounds_toArray, List.set_cons_zero, List.set_cons_succ])
  go_ret
  exact ⟨rfl, rfl⟩

theorem run_index26 {a : Act} {o : Oper} {w : World} {x y : Operand} {ds : List Int} {k : Nat} (ho : o.op = .index 26 x y) (hx : a.eval x = .agg (idc ds)) (hy : a.eval y = .int .i64 (k : Int)) (hi : Id20 ds) (hk : k < 20) :
    (execOp a.eval o).run Try.prog w = .ok (.value (.int .u8 (ds.getD k 0))) w := by
  have hp := run_part5 ds hi k hk w
  have hs : (sizeOf 5).run Try.prog w = .ok 1 w := by
    cases hq : Try.prog.info? 5 with
    | none => have := info5; simp [hq] at this
    | some j => have := info5; simp [hq] at this; simp [sizeOf, typeInfo, hq, this]
  have hin : (0 : Int) ≤ (k : Int) ∧ (k : Int) < ((20 : Nat) : Int) := by omega
  unfold execOp
  simp only [ho]
  rw [hx, hy, Sem.run_bind]
  have : (Instr.index 26 (.agg (idc ds)) (.int .i64 (k : Int))).run Try.prog w = .ok (.int .u8 (ds.getD k 0)) w := by
    unfold Instr.index
    simp only [asIntOf, Sem.run_bind, Sem.run_pure, Result.andThen_ok, run_underlying Try.underlying26]
    rw [if_pos hin, Sem.run_bind, hs, Result.andThen_ok, Int.toNat_natCast]
    exact hp
  rw [this]
  rfl

set_option maxRecDepth 100000 in
set_option maxHeartbeats 4000000 in
theorem startsUpTo_any (us ts : List Int) (ha : Id20 us) (ht : Id20 ts) (w : World) :
    Calls Try.prog 34 #[.agg (idc us), .agg (idc ts)] w fun e w' => ∃ r : Nat, Bits ((bv ts - bv us) % 1461501637330902918203684832716283019655932542976) r ∧ e = .returned (.int .i64 (r : Int)) ∧ Below w.heap.size w w' := by
  have tb0 : True := trivial
  have tb1 : True := trivial
  go_enter Try.func34, Try.ntmps34
  go_wp2_with (first
    | (have _t := tb0; refine wpl_box rfl _ rfl _ rfl (by assumption) ?_; intro ga wa hsa hba hla; clear tb0 _t; simp only [Act.put, List.setIfInBounds_toArray, List.set_cons_zero, List.set_cons_succ])
    | (have _t := tb1; refine wpl_box rfl _ rfl _ rfl (by assumption) ?_; intro gt wt hst hbt hlt; clear tb1 _t; simp only [Act.put, List.setIfInBounds_toArray, List.set_cons_zero, List.set_cons_succ])
    | (refine wpl_alloc26 rfl rfl ?_; intro gd wd hsd hbd hld; simp only [Act.put, List.setIfInBounds_toArray, List.set_cons_zero, List.set_cons_succ]))
  have hsa' := (hsa.below' hbt).below' hbd
  have hst' := hst.below' hbd
  have hbw : Below w.heap.size w wd := Below.chain (Below.chain hba hbt) hbd
  have hgd : w.heap.size ≤ gd := Nat.le_trans hba.size (Nat.le_trans hbt.size hld)
  have hna : ga ≠ gd := by have := (hsa.below' hbt).lt; omega
  have hnt : gt ≠ gd := by have := hst.lt; omega
  clear hsa hst hba hbt hbd hla hlt hld
  go_loopw [6, 7] (fun b i wr => ∃ (n : Nat) (bz : Int) (ds : List Int), n ≤ 20 ∧ 0 ≤ bz ∧ bz ≤ 1 ∧ b = .int .i64 bz ∧ i = .int .i64 ((n : Int) - 1) ∧ Has wr gd ds ∧ Has wr ga us ∧ Has wr gt ts ∧ Below w.heap.size w wr ∧ bv (ds.drop n) = bv (ts.drop n) - bv (us.drop n) + bz * 256 ^ (20 - n))
    (fun _ i _ => (intOf i + 1).toNat)
  case atStart => exact ⟨20, 0, zeros, by omega, by omega, by omega, rfl, rfl, hsd, hsa', hst', hbw, by rw [List.drop_eq_nil_of_le (by rw [hsd.id.1]; omega), List.drop_eq_nil_of_le (by rw [ht.1]; omega), List.drop_eq_nil_of_le (by rw [ha.1]; omega)]; rfl⟩
  case round =>
    obtain ⟨n, bz, ds, hn, b0, b1, rfl, rfl, hd0, ha0, ht0, hbr, he⟩ := hrel
    have HE : Hid (bv (ds.drop n) = bv (ts.drop n) - bv (us.drop n) + bz * 256 ^ (20 - n)) := he
    clear he hsd hsa' hst' hbw
    by_cases hn0 : n = 0
    · subst hn0
      have HB : Hid (bv ds = (bv ts - bv us) % 1461501637330902918203684832716283019655932542976) := su_end hd0.id HE.out
      clear HE
      go_wp2_with (refine wpl_load26 rfl _ rfl _ rfl ds hd0 ?_; simp only [Act.put, List.setIfInBounds_toArray, List.set_cons_zero, List.set_cons_succ])
      go_loop [35] (fun i => ∃ k : Nat, k ≤ 20 ∧ i = .int .i64 (k : Int) ∧ ∀ j, j < k → ds.getD j 0 = 0) (fun i => (20 - intOf i).toNat)
      case atStart => exact ⟨0, by omega, rfl, fun j hj => by omega⟩
      case round =>
        obtain ⟨k, hk, rfl, hz⟩ := hrel
        have HZ : Hid (∀ j, j < k → ds.getD j 0 = 0) := hz
        clear hz
        by_cases hlt : k < 20
        · have hid := hd0.id
          have hbb := hid.2.getD k
          obtain ⟨z, hz0⟩ : ∃ z, ds.getD k 0 = z := ⟨_, rfl⟩
          have HZ0 : Hid (ds.getD k 0 = z) := hz0
          rw [hz0] at hbb
          clear hz0
          obtain ⟨z0, z1⟩ := hbb
          by_cases hzz : z = 0
          · subst hzz
            go_wp2_with (first
              | (refine wpl_val rfl (.int .u8 0) (HZ0.out ▸ run_index26 rfl rfl rfl hid hlt) ?_; simp only [Act.put, List.setIfInBounds_toArray, List.set_cons_zero, List.set_cons_succ]))
            go_round
            case rel => exact ⟨k + 1, by omega, by go_num, fun j hj => by
              rcases Nat.lt_or_ge j k with c | c
              · exact HZ.out j c
              · have : j = k := by omega
                subst this; exact HZ0.out⟩
            case measure => simp [intOf]; omega
          · have hne : (z != 0) = true := by simpa using hzz
            have hbl := bl_spec ⟨z.toNat, by omega⟩ (by simp; omega)
            obtain ⟨p1, p2, p3, p4⟩ := hbl
            simp only at p1 p2 p3 p4
            obtain ⟨L, hL⟩ : ∃ L, Lib.bitLen z.toNat = L := ⟨_, rfl⟩
            rw [hL] at p1 p2 p3 p4
            have HP3 : Hid (2 ^ (L - 1) ≤ z.toNat) := p3
            have HP4 : Hid (z.toNat < 2 ^ L) := p4
            have hl8 := fun W => len8_any z W z0 z1
            rw [hL] at hl8
            clear p3 p4 hL
            go_wp2_with (first
              | (refine wpl_val rfl (.int .u8 z) (HZ0.out ▸ run_index26 rfl rfl rfl hid hlt) ?_; simp only [Act.put, List.setIfInBounds_toArray, List.set_cons_zero, List.set_cons_succ])
              | (go_at_call 41; refine (hl8 _).mono ?_; rintro e w' ⟨rfl, rfl⟩))
            go_ret
            have c1 : (2 : Int) ^ (L - 1) ≤ z := by
              have := Int.ofNat_le.2 HP3.out
              rw [Int.toNat_of_nonneg z0] at this
              simpa using this
            have c2 : z < (2 : Int) ^ L := by
              have := Int.ofNat_lt.2 HP4.out
              rw [Int.toNat_of_nonneg z0] at this
              simpa using this
            refine ⟨(19 - k) * 8 + L, by rw [← HB.out]; exact su_first hd0.id hlt HZ.out p1 p2 (by rw [HZ0.out]; exact c1) (by rw [HZ0.out]; exact c2), ?_, hbr⟩
            show Ending.returned (.int .i64 ((19 - (k : Int)) * 8 + (L : Int))) = _
            congr 2
            omega
        · have hk20 : k = 20 := by omega
          subst hk20
          go_wp2
          go_ret
          exact ⟨160, by rw [← HB.out]; exact su_none hd0.id HZ.out, rfl, hbr⟩
    · obtain ⟨m, rfl⟩ : ∃ m, n = m + 1 := ⟨n - 1, by omega⟩
      have hm : m < 20 := by omega
      have hct := ht0.cell m hm
      have hca := ha0.cell m hm
      have hcd := hd0.cell m hm
      have hfd := hd0.free m
      have bt := ht.2.getD m
      have ba := ha.2.getD m
      have STEP := fun v b' => su_step hd0.id.1 ht.1 ha.1 hm v bz b'
      rw [show ((m + 1 : Nat) : Int) - 1 = (m : Int) by omega]
      have HE' : Hid (bv (ds.drop (m + 1)) = bv (ts.drop (m + 1)) - bv (us.drop (m + 1)) + bz * 256 ^ (19 - m)) := by
        have := HE.out
        rwa [show 20 - (m + 1) = 19 - m by omega] at this
      clear HE
      obtain ⟨tz, htz⟩ : ∃ z, ts.getD m 0 = z := ⟨_, rfl⟩
      obtain ⟨az, haz⟩ : ∃ z, us.getD m 0 = z := ⟨_, rfl⟩
      rw [htz] at hct bt STEP
      rw [haz] at hca ba STEP
      have HST : Hid (∀ v b', v = tz - az - bz + b' * 256 → bv (ds.drop (m + 1)) = bv (ts.drop (m + 1)) - bv (us.drop (m + 1)) + bz * 256 ^ (19 - m) → bv ((ds.set m v).drop m) = bv (ts.drop m) - bv (us.drop m) + b' * 256 ^ (20 - m)) := STEP
      clear STEP htz haz hn0
      obtain ⟨t0, t1⟩ := bt
      obtain ⟨a0, a1⟩ := ba
      by_cases hneg : tz - az - bz < 0
      ·
        go_wp2
        go_quiet (fail)
        go_wp2
        go_roundw
        case rel =>
          refine ⟨m, 1, ds.set m (tz - az - bz + 256), by omega, by omega, by omega, rfl, rfl, ?_, ?_, ?_, ?_, ?_⟩
          · exact (hd0.drewN nq).setByte m (by omega)
          · exact (ha0.drewN nq).setOther m _ hna
          · exact (ht0.drewN nq).setOther m _ hnt
          · exact (Below.drewN' hbr nq).setCell (by show w.heap.size ≤ gd; exact hgd) _
          · exact HST.out _ 1 (by omega) HE'.out
        case measure => simp [intOf]
      ·
        go_wp2
        go_quiet (fail)
        go_wp2
        go_roundw
        case rel =>
          refine ⟨m, 0, ds.set m (tz - az - bz), by omega, by omega, by omega, rfl, rfl, ?_, ?_, ?_, ?_, ?_⟩
          · exact (hd0.drewN nq).setByte m (by omega)
          · exact (ha0.drewN nq).setOther m _ hna
          · exact (ht0.drewN nq).setOther m _ hnt
          · exact (Below.drewN' hbr nq).setCell (by show w.heap.size ≤ gd; exact hgd) _
          · exact HST.out _ 0 (by omega) HE'.out
        case measure => simp [intOf]
end Go.Proofs.Qxb6001691a
