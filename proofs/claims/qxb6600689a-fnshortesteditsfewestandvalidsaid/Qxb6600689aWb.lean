import Derived.Test.Qxb6600689aWm
namespace Go.Proofs.Qxb6600689a
open Go.ChangeShapes Go.WideShapes Go.ChangeAt Go.RowKit
set_option linter.unusedVariables false

def WbP (q : Nat → Nat → Bool) (n m D : Nat) (w : World) (e : Ending) (w' : World) : Prop := ∃ (g c : Nat) (E : List Int), e = .returned (.slice (some ⟨g, 0, none⟩) E.length c) ∧ Below w.heap.size w w' ∧ g < w'.heap.size ∧ (∀ i, i < E.length → w'.cell? ⟨g, i, none⟩ = some (.int .u8 (E.getD i 0))) ∧ E.length ≤ n + m ∧ Ok q n m E 0 0 D
structure WL (q : Nat → Nat → Bool) (n m D : Nat) (w : World) (gd ge : Nat) (wr : World) (d x y : Nat) (es : List Int) : Prop where
  hd : d ≤ D
  blk : Blk wr gd [.int .i64 (d : Int)]
  ed : Ed wr ge (n + m) es
  bel : Below w.heap.size w wr
  at' : At q d x y
  ok : Ok q n m es.reverse x y (D - d)
  len : es.length + (x + y) ≤ n + m
  hx : x ≤ n
  hy : y ≤ m
structure WI (q : Nat → Nat → Bool) (n m D : Nat) (w : World) (gd ge d x0 x y : Nat) (wr : World) (x' y' : Nat) (es : List Int) : Prop where
  blk : Blk wr gd [.int .i64 ((d : Int) + 1)]
  ed : Ed wr ge (n + m) es
  bel : Below w.heap.size w wr
  ok : Ok q n m es.reverse x' y' (D - (d + 1))
  len : es.length + (x' + y') ≤ n + m
  lo : x0 ≤ x'
  hi : x' ≤ x
  dia : (x' : Int) - y' = (x : Int) - y
structure WZ (q : Nat → Nat → Bool) (n m D : Nat) (w : World) (ge x : Nat) (wr : World) (x' : Nat) (es : List Int) : Prop where
  ed : Ed wr ge (n + m) es
  bel : Below w.heap.size w wr
  ok : Ok q n m es.reverse x' x' D
  len : es.length + (x' + x') ≤ n + m
  hi : x' ≤ x
structure WV (w : World) (ge cap : Nat) (es : List Int) (wr : World) (i : Nat) : Prop where
  ed : Ed wr ge cap (rv es i)
  bel : Below w.heap.size w wr
  hi : i ≤ es.length
def dOf (gd : Nat) (wr : World) : Nat := match wr.cell? ⟨gd, 0, none⟩ with
  | some v => (intOf v).toNat
  | none => 0
theorem dOf_blk {gd : Nat} {wr : World} {d : Nat} (h : Blk wr gd [.int .i64 (d : Int)]) : dOf gd wr = d := by
  unfold dOf; rw [h.cellAt 0 rfl]; simp [intOf]

set_option maxRecDepth 100000 in
set_option maxHeartbeats 8000000 in
theorem wb_any (q : Nat → Nat → Bool) (pr : Option Addr) (rs : List (List Int)) (cr n m : Nat) (w : World) (hrd : Rd w w.heap.size pr rs) (hro : Rounds q rs) (hat : At q rs.length n m) (hn : n ≤ 8192) (hm : m ≤ 8192) (hr : rs.length ≤ 1000)
    (hq : ∀ x y, q x y = true → x < n ∧ y < m) :
    Calls Try.prog 15 #[.slice pr rs.length cr, .int .i64 (n : Int), .int .i64 (m : Int), .int .i64 (rs.length : Int)] w fun e w' => WbP q n m rs.length w e w' := by
  go_enter Try.func15, Try.ntmps15
  go_wp2_with (first
    | (refine wpl_box3 rfl _ rfl _ rfl ?_; intro gd w1 hs1 hb1 hl1; simp only [Act.put, List.setIfInBounds_toArray, List.set_cons_zero, List.set_cons_succ])
    | (refine wpl_make38 rfl rfl (n + m) _ rfl rfl (by omega) (by omega) ?_; intro ge w2 hs2 hb2 hl2; simp only [Act.put, List.setIfInBounds_toArray, List.set_cons_zero, List.set_cons_succ]))
  have hgd := hs1.lt
  have hne : gd ≠ ge := by omega
  have hge : w.heap.size ≤ ge := by have := hb1.size; omega
  have hst : WL q n m rs.length w gd ge w2 rs.length n m [] := ⟨Nat.le_refl _, hs1.below hb2 hgd, hs2, hb1.trans (hb2.mono hb1.size), hat, by simp [Ok], by simp, Nat.le_refl _, Nat.le_refl _⟩
  clear hs1 hs2 hb1 hb2 hgd hat hl2
  go_loopw [9, 10, 11] (fun ve vx vy wr => ∃ (d x y : Nat) (es : List Int), ve = .slice (some ⟨ge, 0, none⟩) es.length (n + m) ∧ vx = .int .i64 (x : Int) ∧ vy = .int .i64 (y : Int) ∧ WL q n m rs.length w gd ge wr d x y es) (fun _ _ _ wr => dOf gd wr)
  case atStart => exact ⟨rs.length, n, m, [], rfl, rfl, rfl, hst⟩
  case round =>
    obtain ⟨d, x, y, es, rfl, rfl, rfl, hd, blk, ed, bel, at', ok, len, hx, hy⟩ := hrel
    clear hst
    obtain ⟨w4, h⟩ : ∃ w4, w4 = wr := ⟨_, rfl⟩
    subst h
    cases d with
    | zero =>
      obtain ⟨hxy, hfr⟩ := zero_free q (x := x) (y := y) (by
        obtain ⟨⟨y', e, h1, h2⟩, _⟩ := at'
        obtain rfl : y' = y := by omega
        exact h1)
      subst hxy
      have hcd : w4.cell? ⟨gd, 0, none⟩ = some (.int .i64 0) := blk.cellAt 0 rfl
      have hst : WZ q n m rs.length w ge x w4 x es := ⟨ed, bel, by simpa using ok, len, Nat.le_refl _⟩
      clear at' ok len ed
      go_wp2
      go_loopw [9, 10] (fun ve vx wr => ∃ (x' : Nat) (es' : List Int), ve = .slice (some ⟨ge, 0, none⟩) es'.length (n + m) ∧ vx = .int .i64 (x' : Int) ∧ WZ q n m rs.length w ge x wr x' es') (fun _ vx _ => (intOf vx).toNat)
      case atStart => exact ⟨x, es, rfl, rfl, hst⟩
      case round =>
        clear hst
        obtain ⟨x', es', rfl, rfl, ed, bel', ok, len, hi⟩ := hrel
        cases x' with
        | succ x' =>
          have HQ : Hid (q x' x' = true) := hfr x' (by omega)
          go_wp2_with (first
            | (refine wpl_push rfl rfl 0 rfl _ _ rfl rfl rfl ed (by omega) ?_; intro v8 w8 ed8 hb8 hk8; simp only [Act.put, List.setIfInBounds_toArray, List.set_cons_zero, List.set_cons_succ]))
          go_roundw
          case rel => exact ⟨x', es' ++ [0], rfl, by go_num, ed8, bel'.trans (hb8 _ hge), (by rw [List.reverse_append]; exact .inl ⟨rfl, HQ.out, ok⟩), (by simp; omega), by omega⟩
          case measure => (simp [intOf]; try omega)
        | zero =>
          clear hfr hcd blk
          obtain ⟨L, hL⟩ : ∃ L, es'.length = L := ⟨_, rfl⟩
          have hst : WV w ge (n + m) es' wr 0 := ⟨by rw [rv_zero]; exact ed, bel', Nat.zero_le _⟩
          have HOK : Hid (Ok q n m es'.reverse 0 0 rs.length) := ok
          have HE : Hid (es'.length = L) := hL
          have hLn : L ≤ n + m := by omega
          rw [hL]
          clear ok ed len hL bel'
          go_wp2
          go_loopw [18, 19] (fun vi vj wr => ∃ i : Nat, vi = .int .i64 (i : Int) ∧ vj = .int .i64 ((L : Int) - 1 - i) ∧ WV w ge (n + m) es' wr i) (fun vi _ _ => (L - intOf vi).toNat)
          case atStart => exact ⟨0, rfl, by simp, hst⟩
          case round =>
            clear hst
            obtain ⟨i, rfl, rfl, ed, bel', hi⟩ := hrel
            rw [HE.out] at hi
            by_cases hlt : i < L - 1 - i
            · have c1 := ed.cell (i := i) (by rw [rv_length, HE.out]; omega)
              have c2 := ed.cell (i := L - 1 - i) (by rw [rv_length, HE.out]; omega)
              rw [rv_get es' i i (by rw [HE.out]; omega), if_neg (by rw [HE.out]; omega)] at c1
              rw [rv_get es' i (L - 1 - i) (by rw [HE.out]; omega), if_neg (by rw [HE.out]; omega)] at c2
              obtain ⟨z1, hz1⟩ : ∃ z, es'.getD i 0 = z := ⟨_, rfl⟩
              obtain ⟨z2, hz2⟩ : ∃ z, es'.getD (L - 1 - i) 0 = z := ⟨_, rfl⟩
              rw [hz1] at c1
              rw [hz2] at c2
              have HS : Hid (((rv es' i).set i z2).set (L - 1 - i) z1 = rv es' (i + 1)) := by
                have := rv_swap es' i (by rw [HE.out]; omega)
                rw [HE.out, hz1, hz2] at this
                exact this
              have f1 := ed.frozen i
              have f2 := ed.frozen (L - 1 - i)
              clear hz1 hz2
              have hij : (i : Int) < (L : Int) - 1 - i := by omega
              go_wp2
              go_region
              go_wp2
              go_roundw
              case rel => exact ⟨i + 1, by go_num, (by congr 1; omega), (by rw [← HS.out]; exact (ed.set i z2).set (L - 1 - i) z1), ((bel'.setCell hge _).setCell hge _).drew, (by rw [HE.out]; omega)⟩
              case measure => (simp [intOf]; omega)
            · have hge' : (L : Int) - 1 - i ≤ i := by omega
              have hrev := rv_all es' i (by rw [HE.out]; omega)
              rw [hrev] at ed
              go_wp2
              go_ret
              exact ⟨ge, n + m, es'.reverse, (by rw [List.length_reverse, HE.out]; rfl), bel', ed.lt, fun i hi => ed.cell hi, (by rw [List.length_reverse, HE.out]; omega), HOK.out⟩
    | succ d =>
      obtain ⟨gr, g, c, rfl, hgr, hg, hcr, hcz⟩ := hrd.below bel d (by omega)
      have hln := (hro d (by omega)).1
      have cases4 := back q (hro.prev (d := d) (by omega)) (by omega) at'
      obtain ⟨bz, hbz⟩ : ∃ bz, rs.getD d [] = bz := ⟨_, rfl⟩
      rw [hbz] at hcr hcz hln cases4
      rw [hln] at hcr
      have HL : Hid (bz.length = 2 * d + 1) := hln
      have HM : Hid (dOf gd w4 = d + 1) := dOf_blk blk
      have HB : Hid (Blk w4 gd [.int .i64 ((d : Int) + 1)]) := blk
      have hcd : w4.cell? ⟨gd, 0, none⟩ = some (.int .i64 ((d : Int) + 1)) := blk.cellAt 0 rfl
      have hgdl := blk.lt
      have hgel := ed.lt
      have hsz := bel.size
      clear hln hbz at' blk
      rw [show ((d + 1 : Nat) : Int) = (d : Int) + 1 by omega] at cases4
      rcases cases4 with ⟨k1, x2, e2, y1, f1, f2, f3, f4⟩ | ⟨k1, k2, x1, e1, y1, f1, f2, f3, f4⟩ | ⟨k1, k2, k3, k4, x1, x2, e1, e2, h12, y1, f1, f2, f3, f4⟩ | ⟨k1, k2, k3, k4, x1, x2, e1, e2, h12, y1, f1, f2, f3, f4⟩
      · have E2 : Hid (rd bz ((d : Int) + 1) (-((d : Int) + 1) + 1) = x2) := by rw [← k1]; exact e2
        have F1 : Hid ((x2 : Int) - y1 = (x : Int) - y + 1) := f1
        clear e2 f1
        go_wp2_with (first
          | (refine wpl_alloc22 rfl rfl ?_; intro gb w5 hs5 hb5 hl5; simp only [Act.put, List.setIfInBounds_toArray, List.set_cons_zero, List.set_cons_succ])
          | (refine wpl_storeS rfl rfl rfl rfl hs5 (by decide) ?_; intro w6 hs6 hb6 hk6; have hb56 : Below w4.heap.size w4 w6 := hb5.trans (hb6 _ hl5); have cb := hs6.cellAt 0 rfl; have cd := (hb56.cell (p := ⟨gd, 0, none⟩) hgdl).trans hcd; simp only [Act.put])
          | (go_at_call 16; refine (at_val gb gd g bz (2 * d + 1) c HL.out _ _ x2 _ cb cd (by omega) (by omega) (by omega) (by omega) (by omega) (by omega) (fun i hi => (hb56.cell (p := ⟨g, i, none⟩) (by show g < _; omega)).trans (hcz i hi)) E2.out).mono ?_; rintro e w7 ⟨rfl, rfl⟩))
        have hst : WI q n m rs.length w gd ge d x2 x y _ x y es := ⟨HB.out.below hb56 hgdl, ed.of_block (hb56.block ge hgel), bel.trans (hb56.mono hsz), ok, len, by omega, Nat.le_refl _, rfl⟩
        clear ed ok len hcz hcr hcd cb cd
        go_loopw [9, 10, 11] (fun ve vx vy wr => ∃ (x' y' : Nat) (es' : List Int), ve = .slice (some ⟨ge, 0, none⟩) es'.length (n + m) ∧ vx = .int .i64 (x' : Int) ∧ vy = .int .i64 (y' : Int) ∧ WI q n m rs.length w gd ge d x2 x y wr x' y' es') (fun _ vx _ _ => (intOf vx).toNat)
        case atStart => exact ⟨x, y, es, rfl, rfl, rfl, hst⟩
        case round =>
          clear hst
          obtain ⟨x', y', es', rfl, rfl, rfl, blk, ed, bel', ok, len, lo, hi, dia⟩ := hrel
          have hF := F1.out
          by_cases hlt : x2 < x'
          · obtain ⟨x'', rfl⟩ : ∃ z, x' = z + 1 := ⟨x' - 1, by omega⟩
            obtain ⟨y'', rfl⟩ : ∃ z, y' = z + 1 := ⟨y' - 1, by omega⟩
            have HQ : Hid (q x'' y'' = true) := f4 x'' y'' (by omega) (by omega) (by omega)
            have DIA : Hid ((x'' : Int) - y'' = (x : Int) - y) := (by omega : (x'' : Int) - y'' = (x : Int) - y)
            clear dia hF F1
            have hxi : (x2 : Int) < (x'' : Int) + 1 := by omega
            go_wp2_with (first
              | (refine wpl_push rfl rfl 0 rfl _ _ rfl rfl rfl ed (by omega) ?_; intro v8 w8 ed8 hb8 hk8; simp only [Act.put, List.setIfInBounds_toArray, List.set_cons_zero, List.set_cons_succ]))
            go_roundw
            case rel => exact ⟨x'', y'', es' ++ [0], rfl, by go_num, by go_num, blk.of_block (hk8 gd hne blk.lt), ed8, bel'.trans (hb8 _ hge), (by rw [List.reverse_append]; exact .inl ⟨rfl, HQ.out, ok⟩), (by simp; omega), by omega, by omega, DIA.out⟩
            case measure => (simp [intOf]; try omega)
          · obtain rfl : x2 = x' := by omega
            obtain rfl : y1 + 1 = y' := by omega
            have hyy : y1 < m := by omega
            have hyz : y1 ≤ m := by omega
            clear dia hF F1
            have hcd := blk.cellAt 0 rfl
            go_wp2_with (first
              | (refine wpl_push rfl rfl 2 rfl _ _ rfl rfl rfl ed (by omega) ?_; intro v8 w8 ed8 hb8 hk8; have blk8 := blk.of_block (hk8 gd hne blk.lt); have cd8 := blk8.cellAt 0 rfl; simp only [Act.put, List.setIfInBounds_toArray, List.set_cons_zero, List.set_cons_succ])
              | (refine wpl_storeI size3 rfl rfl rfl rfl blk8 Nat.zero_lt_one ?_; intro w9 hs9 hb9 hk9; simp only [Act.put]))
            have blk9 : Blk w9 gd [.int .i64 (d : Int)] := hs9
            go_roundw
            case rel => exact ⟨d, x2, y1, es' ++ [2], rfl, by go_num, by go_num, by omega, blk9, ed8.of_block (hk9 ge (fun h => hne h.symm)), bel'.trans ((hb8 _ hge).trans (hb9 _ hl1)), f3, (by rw [List.reverse_append, show rs.length - d = rs.length - (d + 1) + 1 by omega]; exact .inr (.inr ⟨rfl, by omega, _, rfl, ok⟩)), (by simp; omega), by omega, by omega⟩
            case measure => rw [HM.out, dOf_blk blk9]; omega
      · have E1 : Hid (rd bz ((d : Int) + 1) ((d : Int) + 1 - 1) = x1) := by have h := e1; rw [k2] at h; exact h
        have E1b : Hid (rd bz ((d : Int) + 1) (d : Int) = x1) := by have := E1.out; rwa [show (d : Int) + 1 - 1 = d by omega] at this
        have F1 : Hid ((x1 : Int) - y1 = (x : Int) - y - 1) := f1
        have kb : ((d : Int) + 1 == -((d : Int) + 1)) = false := by simp; omega
        clear e1 f1 k1
        go_wp2_with (first
          | (refine wpl_alloc22 rfl rfl ?_; intro gb w5 hs5 hb5 hl5; simp only [Act.put, List.setIfInBounds_toArray, List.set_cons_zero, List.set_cons_succ])
          | (refine wpl_storeS rfl rfl rfl rfl hs5 (by decide) ?_; intro w6 hs6 hb6 hk6; have hb56 : Below w4.heap.size w4 w6 := hb5.trans (hb6 _ hl5); have cb := hs6.cellAt 0 rfl; have cd := (hb56.cell (p := ⟨gd, 0, none⟩) hgdl).trans hcd; simp only [Act.put])
          | (go_at_call 16; refine (at_val gb gd g bz (2 * d + 1) c HL.out _ _ x1 _ cb cd (by omega) (by omega) (by omega) (by omega) (by omega) (by omega) (fun i hi => (hb56.cell (p := ⟨g, i, none⟩) (by show g < _; omega)).trans (hcz i hi)) (by first | exact E1.out | exact E1b.out)).mono ?_; rintro e w7 ⟨rfl, rfl⟩))
        have hst : WI q n m rs.length w gd ge d (x1 + 1) x y _ x y es := ⟨HB.out.below hb56 hgdl, ed.of_block (hb56.block ge hgel), bel.trans (hb56.mono hsz), ok, len, by omega, Nat.le_refl _, rfl⟩
        clear ed ok len hcz hcr hcd cb cd
        go_loopw [9, 10, 11] (fun ve vx vy wr => ∃ (x' y' : Nat) (es' : List Int), ve = .slice (some ⟨ge, 0, none⟩) es'.length (n + m) ∧ vx = .int .i64 (x' : Int) ∧ vy = .int .i64 (y' : Int) ∧ WI q n m rs.length w gd ge d (x1 + 1) x y wr x' y' es') (fun _ vx _ _ => (intOf vx).toNat)
        case atStart => exact ⟨x, y, es, rfl, rfl, rfl, hst⟩
        case round =>
          clear hst
          obtain ⟨x', y', es', rfl, rfl, rfl, blk, ed, bel', ok, len, lo, hi, dia⟩ := hrel
          have hF := F1.out
          by_cases hlt : (x1 + 1) < x'
          · obtain ⟨x'', rfl⟩ : ∃ z, x' = z + 1 := ⟨x' - 1, by omega⟩
            obtain ⟨y'', rfl⟩ : ∃ z, y' = z + 1 := ⟨y' - 1, by omega⟩
            have HQ : Hid (q x'' y'' = true) := f4 x'' y'' (by omega) (by omega) (by omega)
            have DIA : Hid ((x'' : Int) - y'' = (x : Int) - y) := (by omega : (x'' : Int) - y'' = (x : Int) - y)
            clear dia hF F1
            have hxi : ((x1 : Int) + 1 : Int) < (x'' : Int) + 1 := by omega
            go_wp2_with (first
              | (refine wpl_push rfl rfl 0 rfl _ _ rfl rfl rfl ed (by omega) ?_; intro v8 w8 ed8 hb8 hk8; simp only [Act.put, List.setIfInBounds_toArray, List.set_cons_zero, List.set_cons_succ]))
            go_roundw
            case rel => exact ⟨x'', y'', es' ++ [0], rfl, by go_num, by go_num, blk.of_block (hk8 gd hne blk.lt), ed8, bel'.trans (hb8 _ hge), (by rw [List.reverse_append]; exact .inl ⟨rfl, HQ.out, ok⟩), (by simp; omega), by omega, by omega, DIA.out⟩
            case measure => (simp [intOf]; try omega)
          · obtain rfl : (x1 + 1) = x' := by omega
            obtain rfl : y1 = y' := by omega
            have hyy : x1 < n := by omega
            have hyz : y1 ≤ m := by omega
            clear dia hF F1
            have hcd := blk.cellAt 0 rfl
            go_wp2_with (first
              | (refine wpl_push rfl rfl 1 rfl _ _ rfl rfl rfl ed (by omega) ?_; intro v8 w8 ed8 hb8 hk8; have blk8 := blk.of_block (hk8 gd hne blk.lt); have cd8 := blk8.cellAt 0 rfl; simp only [Act.put, List.setIfInBounds_toArray, List.set_cons_zero, List.set_cons_succ])
              | (refine wpl_storeI size3 rfl rfl rfl rfl blk8 Nat.zero_lt_one ?_; intro w9 hs9 hb9 hk9; simp only [Act.put]))
            have blk9 : Blk w9 gd [.int .i64 (d : Int)] := hs9
            go_roundw
            case rel => exact ⟨d, x1, y1, es' ++ [1], rfl, by go_num, by go_num, by omega, blk9, ed8.of_block (hk9 ge (fun h => hne h.symm)), bel'.trans ((hb8 _ hge).trans (hb9 _ hl1)), f3, (by rw [List.reverse_append, show rs.length - d = rs.length - (d + 1) + 1 by omega]; exact .inr (.inl ⟨rfl, by omega, _, rfl, ok⟩)), (by simp; omega), by omega, by omega⟩
            case measure => rw [HM.out, dOf_blk blk9]; omega
      · obtain ⟨kk, hkk⟩ : ∃ kk, (x : Int) - y = kk := ⟨_, rfl⟩
        have E1 : Hid (rd bz ((d : Int) + 1) (kk - 1) = x1) := by rw [← hkk]; exact e1
        have E2 : Hid (rd bz ((d : Int) + 1) (kk + 1) = x2) := by rw [← hkk]; exact e2
        have F1 : Hid ((x2 : Int) - y1 = (x : Int) - y + 1) := f1
        rw [hkk] at k1 k2 k3 k4
        have kb : (kk == -((d : Int) + 1)) = false := by simp; omega
        have kb2 : (kk == (d : Int) + 1) = false := by simp; omega
        have h12' : (x1 : Int) < x2 := by omega
        clear e1 e2 f1 k1 k2
        have t1 : True := trivial
        have t2 : True := trivial
        go_wp2_with (first
          | (refine wpl_alloc22 rfl rfl ?_; intro gb w5 hs5 hb5 hl5; simp only [Act.put, List.setIfInBounds_toArray, List.set_cons_zero, List.set_cons_succ])
          | (refine wpl_storeS rfl rfl rfl rfl hs5 (by decide) ?_; intro w6 hs6 hb6 hk6; have hb56 : Below w4.heap.size w4 w6 := hb5.trans (hb6 _ hl5); have cb := hs6.cellAt 0 rfl; have cd := (hb56.cell (p := ⟨gd, 0, none⟩) hgdl).trans hcd; simp only [Act.put])
          | (go_at_call 16; have _t := t1; refine (at_val gb gd g bz (2 * d + 1) c HL.out _ (kk - 1) x1 _ cb cd (by omega) (by omega) (by omega) (by omega) (by omega) (by omega) (fun i hi => (hb56.cell (p := ⟨g, i, none⟩) (by show g < _; omega)).trans (hcz i hi)) E1.out).mono ?_; rintro e w7 ⟨rfl, rfl⟩; clear t1 _t)
          | (go_at_call 16; have _t := t2; refine (at_val gb gd g bz (2 * d + 1) c HL.out _ (kk + 1) x2 _ cb cd (by omega) (by omega) (by omega) (by omega) (by omega) (by omega) (fun i hi => (hb56.cell (p := ⟨g, i, none⟩) (by show g < _; omega)).trans (hcz i hi)) E2.out).mono ?_; rintro e w7 ⟨rfl, rfl⟩; clear t2 _t)
          | (go_at_call 16; refine (at_val gb gd g bz (2 * d + 1) c HL.out _ (kk + 1) x2 _ cb cd (by omega) (by omega) (by omega) (by omega) (by omega) (by omega) (fun i hi => (hb56.cell (p := ⟨g, i, none⟩) (by show g < _; omega)).trans (hcz i hi)) E2.out).mono ?_; rintro e w7 ⟨rfl, rfl⟩))
        have hst : WI q n m rs.length w gd ge d x2 x y _ x y es := ⟨HB.out.below hb56 hgdl, ed.of_block (hb56.block ge hgel), bel.trans (hb56.mono hsz), ok, len, by omega, Nat.le_refl _, rfl⟩
        clear ed ok len hcz hcr hcd cb cd
        go_loopw [9, 10, 11] (fun ve vx vy wr => ∃ (x' y' : Nat) (es' : List Int), ve = .slice (some ⟨ge, 0, none⟩) es'.length (n + m) ∧ vx = .int .i64 (x' : Int) ∧ vy = .int .i64 (y' : Int) ∧ WI q n m rs.length w gd ge d x2 x y wr x' y' es') (fun _ vx _ _ => (intOf vx).toNat)
        case atStart => exact ⟨x, y, es, rfl, rfl, rfl, hst⟩
        case round =>
          clear hst
          obtain ⟨x', y', es', rfl, rfl, rfl, blk, ed, bel', ok, len, lo, hi, dia⟩ := hrel
          have hF := F1.out
          by_cases hlt : x2 < x'
          · obtain ⟨x'', rfl⟩ : ∃ z, x' = z + 1 := ⟨x' - 1, by omega⟩
            obtain ⟨y'', rfl⟩ : ∃ z, y' = z + 1 := ⟨y' - 1, by omega⟩
            have HQ : Hid (q x'' y'' = true) := f4 x'' y'' (by omega) (by omega) (by omega)
            have DIA : Hid ((x'' : Int) - y'' = (x : Int) - y) := (by omega : (x'' : Int) - y'' = (x : Int) - y)
            clear dia hF F1
            have hxi : (x2 : Int) < (x'' : Int) + 1 := by omega
            go_wp2_with (first
              | (refine wpl_push rfl rfl 0 rfl _ _ rfl rfl rfl ed (by omega) ?_; intro v8 w8 ed8 hb8 hk8; simp only [Act.put, List.setIfInBounds_toArray, List.set_cons_zero, List.set_cons_succ]))
            go_roundw
            case rel => exact ⟨x'', y'', es' ++ [0], rfl, by go_num, by go_num, blk.of_block (hk8 gd hne blk.lt), ed8, bel'.trans (hb8 _ hge), (by rw [List.reverse_append]; exact .inl ⟨rfl, HQ.out, ok⟩), (by simp; omega), by omega, by omega, DIA.out⟩
            case measure => (simp [intOf]; try omega)
          · obtain rfl : x2 = x' := by omega
            obtain rfl : y1 + 1 = y' := by omega
            have hyy : y1 < m := by omega
            have hyz : y1 ≤ m := by omega
            clear dia hF F1
            have hcd := blk.cellAt 0 rfl
            go_wp2_with (first
              | (refine wpl_push rfl rfl 2 rfl _ _ rfl rfl rfl ed (by omega) ?_; intro v8 w8 ed8 hb8 hk8; have blk8 := blk.of_block (hk8 gd hne blk.lt); have cd8 := blk8.cellAt 0 rfl; simp only [Act.put, List.setIfInBounds_toArray, List.set_cons_zero, List.set_cons_succ])
              | (refine wpl_storeI size3 rfl rfl rfl rfl blk8 Nat.zero_lt_one ?_; intro w9 hs9 hb9 hk9; simp only [Act.put]))
            have blk9 : Blk w9 gd [.int .i64 (d : Int)] := hs9
            go_roundw
            case rel => exact ⟨d, x2, y1, es' ++ [2], rfl, by go_num, by go_num, by omega, blk9, ed8.of_block (hk9 ge (fun h => hne h.symm)), bel'.trans ((hb8 _ hge).trans (hb9 _ hl1)), f3, (by rw [List.reverse_append, show rs.length - d = rs.length - (d + 1) + 1 by omega]; exact .inr (.inr ⟨rfl, by omega, _, rfl, ok⟩)), (by simp; omega), by omega, by omega⟩
            case measure => rw [HM.out, dOf_blk blk9]; omega
      · obtain ⟨kk, hkk⟩ : ∃ kk, (x : Int) - y = kk := ⟨_, rfl⟩
        have E1 : Hid (rd bz ((d : Int) + 1) (kk - 1) = x1) := by rw [← hkk]; exact e1
        have E2 : Hid (rd bz ((d : Int) + 1) (kk + 1) = x2) := by rw [← hkk]; exact e2
        have F1 : Hid ((x1 : Int) - y1 = (x : Int) - y - 1) := f1
        rw [hkk] at k1 k2 k3 k4
        have kb : (kk == -((d : Int) + 1)) = false := by simp; omega
        have kb2 : (kk == (d : Int) + 1) = false := by simp; omega
        have h12' : (x2 : Int) ≤ x1 := by omega
        clear e1 e2 f1 k1 k2
        have t1 : True := trivial
        have t2 : True := trivial
        go_wp2_with (first
          | (refine wpl_alloc22 rfl rfl ?_; intro gb w5 hs5 hb5 hl5; simp only [Act.put, List.setIfInBounds_toArray, List.set_cons_zero, List.set_cons_succ])
          | (refine wpl_storeS rfl rfl rfl rfl hs5 (by decide) ?_; intro w6 hs6 hb6 hk6; have hb56 : Below w4.heap.size w4 w6 := hb5.trans (hb6 _ hl5); have cb := hs6.cellAt 0 rfl; have cd := (hb56.cell (p := ⟨gd, 0, none⟩) hgdl).trans hcd; simp only [Act.put])
          | (go_at_call 16; have _t := t1; refine (at_val gb gd g bz (2 * d + 1) c HL.out _ (kk - 1) x1 _ cb cd (by omega) (by omega) (by omega) (by omega) (by omega) (by omega) (fun i hi => (hb56.cell (p := ⟨g, i, none⟩) (by show g < _; omega)).trans (hcz i hi)) E1.out).mono ?_; rintro e w7 ⟨rfl, rfl⟩; clear t1 _t)
          | (go_at_call 16; have _t := t2; refine (at_val gb gd g bz (2 * d + 1) c HL.out _ (kk + 1) x2 _ cb cd (by omega) (by omega) (by omega) (by omega) (by omega) (by omega) (fun i hi => (hb56.cell (p := ⟨g, i, none⟩) (by show g < _; omega)).trans (hcz i hi)) E2.out).mono ?_; rintro e w7 ⟨rfl, rfl⟩; clear t2 _t)
          | (go_at_call 16; refine (at_val gb gd g bz (2 * d + 1) c HL.out _ (kk - 1) x1 _ cb cd (by omega) (by omega) (by omega) (by omega) (by omega) (by omega) (fun i hi => (hb56.cell (p := ⟨g, i, none⟩) (by show g < _; omega)).trans (hcz i hi)) E1.out).mono ?_; rintro e w7 ⟨rfl, rfl⟩))
        have hst : WI q n m rs.length w gd ge d (x1 + 1) x y _ x y es := ⟨HB.out.below hb56 hgdl, ed.of_block (hb56.block ge hgel), bel.trans (hb56.mono hsz), ok, len, by omega, Nat.le_refl _, rfl⟩
        clear ed ok len hcz hcr hcd cb cd
        go_loopw [9, 10, 11] (fun ve vx vy wr => ∃ (x' y' : Nat) (es' : List Int), ve = .slice (some ⟨ge, 0, none⟩) es'.length (n + m) ∧ vx = .int .i64 (x' : Int) ∧ vy = .int .i64 (y' : Int) ∧ WI q n m rs.length w gd ge d (x1 + 1) x y wr x' y' es') (fun _ vx _ _ => (intOf vx).toNat)
        case atStart => exact ⟨x, y, es, rfl, rfl, rfl, hst⟩
        case round =>
          clear hst
          obtain ⟨x', y', es', rfl, rfl, rfl, blk, ed, bel', ok, len, lo, hi, dia⟩ := hrel
          have hF := F1.out
          by_cases hlt : (x1 + 1) < x'
          · obtain ⟨x'', rfl⟩ : ∃ z, x' = z + 1 := ⟨x' - 1, by omega⟩
            obtain ⟨y'', rfl⟩ : ∃ z, y' = z + 1 := ⟨y' - 1, by omega⟩
            have HQ : Hid (q x'' y'' = true) := f4 x'' y'' (by omega) (by omega) (by omega)
            have DIA : Hid ((x'' : Int) - y'' = (x : Int) - y) := (by omega : (x'' : Int) - y'' = (x : Int) - y)
            clear dia hF F1
            have hxi : ((x1 : Int) + 1 : Int) < (x'' : Int) + 1 := by omega
            go_wp2_with (first
              | (refine wpl_push rfl rfl 0 rfl _ _ rfl rfl rfl ed (by omega) ?_; intro v8 w8 ed8 hb8 hk8; simp only [Act.put, List.setIfInBounds_toArray, List.set_cons_zero, List.set_cons_succ]))
            go_roundw
            case rel => exact ⟨x'', y'', es' ++ [0], rfl, by go_num, by go_num, blk.of_block (hk8 gd hne blk.lt), ed8, bel'.trans (hb8 _ hge), (by rw [List.reverse_append]; exact .inl ⟨rfl, HQ.out, ok⟩), (by simp; omega), by omega, by omega, DIA.out⟩
            case measure => (simp [intOf]; try omega)
          · obtain rfl : (x1 + 1) = x' := by omega
            obtain rfl : y1 = y' := by omega
            have hyy : x1 < n := by omega
            have hyz : y1 ≤ m := by omega
            clear dia hF F1
            have hcd := blk.cellAt 0 rfl
            go_wp2_with (first
              | (refine wpl_push rfl rfl 1 rfl _ _ rfl rfl rfl ed (by omega) ?_; intro v8 w8 ed8 hb8 hk8; have blk8 := blk.of_block (hk8 gd hne blk.lt); have cd8 := blk8.cellAt 0 rfl; simp only [Act.put, List.setIfInBounds_toArray, List.set_cons_zero, List.set_cons_succ])
              | (refine wpl_storeI size3 rfl rfl rfl rfl blk8 Nat.zero_lt_one ?_; intro w9 hs9 hb9 hk9; simp only [Act.put]))
            have blk9 : Blk w9 gd [.int .i64 (d : Int)] := hs9
            go_roundw
            case rel => exact ⟨d, x1, y1, es' ++ [1], rfl, by go_num, by go_num, by omega, blk9, ed8.of_block (hk9 ge (fun h => hne h.symm)), bel'.trans ((hb8 _ hge).trans (hb9 _ hl1)), f3, (by rw [List.reverse_append, show rs.length - d = rs.length - (d + 1) + 1 by omega]; exact .inr (.inl ⟨rfl, by omega, _, rfl, ok⟩)), (by simp; omega), by omega, by omega⟩
            case measure => rw [HM.out, dOf_blk blk9]; omega
end Go.Proofs.Qxb6600689a
