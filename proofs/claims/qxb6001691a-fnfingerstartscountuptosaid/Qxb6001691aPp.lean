import Derived.Test.Qxb6001691aCf
namespace Go.Proofs.Qxb6001691a
open Go.ChangeShapes Go.WideShapes Go.ChangeAt Go.RowKit

/-- One byte of an identifier is written. -/
theorem idc_set (ys : List Int) (m : Nat) (v : Int) : (idc ys).setIfInBounds m (.int .u8 v) = idc (ys.set m v) := by
  simp [idc, List.map_set]
theorem Has.setByte {w : World} {g : Nat} {ys : List Int} (h : Has w g ys) (m : Nat) {v : Int} (hv : 0 ≤ v ∧ v ≤ 255) : Has (w.setCell ⟨g, m, none⟩ (.int .u8 v)) g (ys.set m v) := by
  obtain ⟨hi, t, h⟩ := h
  refine ⟨⟨by rw [List.length_set]; exact hi.1, hi.2.set m hv⟩, t, ?_⟩
  rw [heap_setCell_same w g m _ t _ h, idc_set]
theorem Has.setOther {w : World} {g g' : Nat} {ys : List Int} (h : Has w g' ys) (m : Nat) (v : Value) (hne : g' ≠ g) : Has (w.setCell ⟨g, m, none⟩ v) g' ys :=
  h.of_block (heap_setCell_other w ⟨g, m, none⟩ g' v hne)
/-- A result that is an identifier, out of its variable. -/
theorem results_id {fn : Func} {p : Tmp} (h : fn.results = #[.cell p 26]) (tmps : Array Value) {w : World} {g : Nat} {ys : List Int}
    (hp : tmps.getD p undef = .pointer (some ⟨g, 0, none⟩)) (hg : Has w g ys) : (results fn tmps).run Try.prog w = .ok (.agg (idc ys)) w := by
  obtain ⟨hi, t, hg⟩ := hg
  exact results_cell_row h tmps w g t (idc ys) (0, 0) _ hp hg Try.underlying26 rfl (by rw [idc_size, hi.1]; exact size26)

theorem two_mod8 (k : Nat) : (0 : Int) ≤ 2 ^ (k % 8) ∧ (2 : Int) ^ (k % 8) ≤ 255 := by
  have h : k % 8 < 8 := Nat.mod_lt _ (by decide)
  generalize k % 8 = r at h
  match r, h with
  | 0, _ => decide
  | 1, _ => decide
  | 2, _ => decide
  | 3, _ => decide
  | 4, _ => decide
  | 5, _ => decide
  | 6, _ => decide
  | 7, _ => decide
theorem pp_start (xs : List Int) (k : Nat) (hk : k < 160) : bv xs + 2 ^ (k % 8) * 256 ^ (20 - (20 - k / 8)) = bv xs + 2 ^ k := by
  rw [show 20 - (20 - k / 8) = k / 8 by omega, pow_split k]

set_option maxHeartbeats 1000000 in
theorem plusPower_any (xs : List Int) (hx : Id20 xs) (k : Nat) (hk : k < 160) (w : World) :
    Calls Try.prog 33 #[.agg (idc xs), .int .i64 (k : Int)] w fun e w' => ∃ ys, Id20 ys ∧ bv ys = (bv xs + 2 ^ k) % 1461501637330902918203684832716283019655932542976 ∧ e = .returned (.agg (idc ys)) ∧ Below w.heap.size w w' := by
  have hm := two_mod8 k
  have hst := pp_start xs k hk
  go_enter Try.func33, Try.ntmps33
  go_wp2_with (first
    | (refine wpl_box rfl _ rfl _ rfl (by assumption) ?_; intro g w1 hs hb hl)
    | (refine wpl_alloc26 rfl rfl ?_; intro g' w2 hs' hb' hl'))
  have hgg : g < g' := Nat.lt_of_lt_of_le hs.lt hl'
  have hsw := hs.below' hb'
  have hbw : Below w.heap.size w w2 := Below.chain hb hb'
  go_loopw [5, 6] (fun c i wr => ∃ (n : Nat) (cz : Int) (ys : List Int), n ≤ 20 ∧ 0 ≤ cz ∧ cz ≤ 255 ∧ c = .int .u64 cz ∧ i = .int .i64 ((n : Int) - 1) ∧ Has wr g ys ∧ Has wr g' zeros ∧ Below w.heap.size w wr ∧ bv ys + cz * 256 ^ (20 - n) = bv xs + 2 ^ k)
    (fun _ i _ => (intOf i + 1).toNat)
  case atStart => exact ⟨20 - k / 8, 2 ^ (k % 8), xs, by omega, hm.1, hm.2, rfl, by congr 1; omega, hsw, hs', hbw, hst⟩
  case round =>
    obtain ⟨n, cz, ys, hn, c0, c1, rfl, rfl, hy, hz, hbr, he⟩ := hrel
    have HE : Hid (bv ys + cz * 256 ^ (20 - n) = bv xs + 2 ^ k) := he
    clear he hst hm hsw hs' hs hb hb' hbw
    by_cases hn0 : n = 0
    · subst hn0
      go_wp2_with (first
        | (refine wpl_load26 rfl _ rfl _ rfl ys hy ?_)
        | (refine wpl_store26 rfl _ _ rfl g' rfl ys rfl hy.id zeros hz ?_; intro w3 hs3 hb3 hk3))
      exact bodyPost_ret (v := .agg (idc ys)) (results_id rfl _ rfl hs3) rfl ⟨ys, hy.id, pp_end_out hy.id HE.out, rfl, hbr.trans (hb3 _ (by omega))⟩
    by_cases hc0 : cz = 0
    · subst hc0
      have hn1 : 1 ≤ n := by omega
      go_wp2_with (first
        | (refine wpl_load26 rfl _ rfl _ rfl ys hy ?_)
        | (refine wpl_store26 rfl _ _ rfl g' rfl ys rfl hy.id zeros hz ?_; intro w3 hs3 hb3 hk3))
      exact bodyPost_ret (v := .agg (idc ys)) (results_id rfl _ rfl hs3) rfl ⟨ys, hy.id, pp_end_zero hy.id HE.out, rfl, hbr.trans (hb3 _ (by omega))⟩
    obtain ⟨m, rfl⟩ : ∃ m, n = m + 1 := ⟨n - 1, by omega⟩
    have hc := hy.cell m (by omega)
    have hf := hy.free m
    have hb := hy.id.2.getD m
    have hstep := pp_step hy.id.1 (show m < 20 by omega) cz
    have hcne : (cz != 0) = true := by simpa using hc0
    rw [show ((m + 1 : Nat) : Int) - 1 = (m : Int) by omega]
    obtain ⟨z, hz0⟩ : ∃ z, ys.getD m 0 = z := ⟨_, rfl⟩
    rw [hz0] at hc hb hstep
    have HS : Hid (bv (ys.set m ((z + cz) % 256)) + (z + cz) / 256 * 256 ^ (20 - m) = bv ys + cz * 256 ^ (19 - m)) := hstep
    clear hstep hz0 hn0 hc0
    obtain ⟨hb0, hb1⟩ := hb
    go_wp2
    go_roundw
    case rel =>
      refine ⟨m, (z + cz) / 256, ys.set m ((z + cz) % 256), by omega, by omega, by omega, rfl, rfl, hy.setByte m (by omega), hz.setOther m _ (by omega), hbr.setCell (by show w.heap.size ≤ g; exact hl) _, ?_⟩
      rw [HS.out, ← HE.out, show 20 - (m + 1) = 19 - m by omega]
    case measure => simp [intOf]

set_option maxHeartbeats 1000000 in
theorem zzPlusPower_any (xs : List Int) (hx : Id20 xs) (k : Nat) (hk : k < 160) (w : World) :
    Calls Try.prog 11 #[.agg (idc xs), .int .i64 (k : Int)] w fun e w' => ∃ ys, Id20 ys ∧ bv ys = (bv xs + 2 ^ k) % 1461501637330902918203684832716283019655932542976 ∧ e = .returned (.agg (idc ys)) ∧ Below w.heap.size w w' := by
  go_enter Try.func11, Try.ntmps11
  go_wp2_with (first
    | (refine wpl_box rfl _ rfl _ rfl (by assumption) ?_; intro g w1 hs hb hl)
    | (refine wpl_alloc26 rfl rfl ?_; intro g' w2 hs' hb' hl')
    | (refine wpl_load26 rfl _ rfl _ rfl xs (hs.below' hb') ?_)
    | (go_at_call 33; refine (plusPower_any xs hx k hk _).mono ?_; rintro e w3 ⟨ys, hi, hv, rfl, hb3⟩; have HV : Hid (bv ys = (bv xs + 2 ^ k) % 1461501637330902918203684832716283019655932542976) := hv; clear hv)
    | (refine wpl_store26 rfl _ _ rfl g' rfl ys rfl hi zeros (hs'.below' hb3) ?_; intro w4 hs4 hb4 hk4))
  exact bodyPost_ret (v := .agg (idc ys)) (results_id rfl _ rfl hs4) rfl ⟨ys, hi, HV.out, rfl, (Below.chain (Below.chain hb hb') hb3).trans (hb4 _ (Nat.le_trans hb.size hl'))⟩
end Go.Proofs.Qxb6001691a
