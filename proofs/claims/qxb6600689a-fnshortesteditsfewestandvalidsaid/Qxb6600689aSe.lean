import Derived.Test.Qxb6600689aSn
import Derived.Test.Qxb6600689aWb
namespace Go.Proofs.Qxb6600689a
open Go.ChangeShapes Go.WideShapes Go.ChangeAt Go.RowKit
set_option linter.unusedVariables false

structure SE (q : Nat → Nat → Bool) (n m lim : Nat) (w : World) (gv : Nat) (wr : World) (v : Value) (rs : List (List Int)) (cs : List Value) (V : List Int) (D i : Nat) : Prop where
  blk : Blk wr gv (iv V)
  tb : Tb q n m lim D i V
  rr : RR wr gv v rs cs
  ro : Rounds q rs
  far : D ≤ ED q n m
  bel : Below w.heap.size w wr
  hD : rs.length = D
theorem SE.drewN {q : Nat → Nat → Bool} {n m lim : Nat} {w : World} {gv : Nat} {wr : World} {v : Value} {rs : List (List Int)} {cs : List Value} {V : List Int} {D i : Nat} (h : SE q n m lim w gv wr v rs cs V D i) (k : Nat) : SE q n m lim w gv (wr.drewN k) v rs cs V D i :=
  ⟨h.blk, h.tb, h.rr.kept fun _ _ _ => rfl, h.ro, h.far, h.bel.trans (Below.drewN' _ _ _), h.hD⟩
theorem SE.store {q : Nat → Nat → Bool} {n m lim : Nat} {w : World} {gv : Nat} {wr : World} {v : Value} {rs : List (List Int)} {cs : List Value} {V : List Int} {D i k : Nat} (h : SE q n m lim w gv wr v rs cs V D i) (hd : D ≤ lim) (hi : i ≤ D) {x : Nat} (f : Fr q D (2 * i - D) x) (hn : ¬ (n ≤ x ∧ (m : Int) ≤ x - (2 * i - D)))
    (hg : w.heap.size ≤ gv) {w9 : World} (hb : Blk w9 gv (iv (V.set (lim + 1 + 2 * i - D) x))) (hb9 : ∀ B, B ≤ gv → Below B (wr.drewN k) w9) (hk9 : ∀ j, j ≠ gv → w9.heap[j]? = (wr.drewN k).heap[j]?) : SE q n m lim w gv w9 v rs cs (V.set (lim + 1 + 2 * i - D) x) D (i + 1) :=
  ⟨hb, h.tb.set hd hi f hn, h.rr.kept fun j h1 _ => hk9 j (by omega), h.ro, h.far, h.bel.trans ((Below.drewN' _ _ k).trans (hb9 _ hg)), h.hD⟩
theorem fr_cast {q : Nat → Nat → Bool} {d x : Nat} {k k' : Int} (e : k' = k) (h : Fr q d k x) : Fr q d k' x := by subst e; exact h
/-- The start of a slide, by its four ways. -/
theorem fwd (q : Nat → Nat → Bool) {r : Int → Int} {d i : Nat} {k : Int} (h : Prev q r d) (hi : i ≤ d) (hk : 2 * (i : Int) - d = k) :
    (k = -d ∧ ∃ x0 : Nat, r (k + 1) = x0 ∧ Fs q d k x0) ∨
    (k ≠ -d ∧ k = d ∧ ∃ x1 : Nat, r (k - 1) = x1 ∧ Fs q d k (x1 + 1)) ∨
    (k ≠ -d ∧ k ≠ d ∧ -d + 2 ≤ k ∧ k ≤ d - 2 ∧ ∃ x1 x2 : Nat, r (k - 1) = x1 ∧ r (k + 1) = x2 ∧ x1 < x2 ∧ Fs q d k x2) ∨
    (k ≠ -d ∧ k ≠ d ∧ -d + 2 ≤ k ∧ k ≤ d - 2 ∧ ∃ x1 x2 : Nat, r (k - 1) = x1 ∧ r (k + 1) = x2 ∧ x2 ≤ x1 ∧ Fs q d k (x1 + 1)) := by
  obtain ⟨x0, es, hs⟩ := start_fs q h hi
  rw [hk] at es hs
  by_cases c1 : k = -d
  · exact .inl ⟨c1, x0, by rw [← es, start, if_pos (by simp [isDown, c1])], hs⟩
  · have hA : ∃ x1 : Nat, r (k - 1) = x1 := by
      obtain ⟨x1, e1, _⟩ := h.2 (i - 1) (by omega)
      exact ⟨x1, by rw [← e1]; congr 1; omega⟩
    obtain ⟨x1, e1⟩ := hA
    by_cases c2 : k = d
    · have nd : isDown r d k = false := by rw [isDown, decide_eq_false c1, c2]; simp
      have e : x0 = x1 + 1 := by rw [start, nd, e1] at es; simp at es; omega
      subst e
      exact .inr (.inl ⟨c1, c2, x1, e1, hs⟩)
    · obtain ⟨x2, e2, _⟩ := h.2 i (by omega)
      rw [show 2 * (i : Int) - d + 1 = k + 1 by omega] at e2
      by_cases c : x1 < x2
      · have nd : isDown r d k = true := by rw [isDown, decide_eq_false c1, e1, e2]; simp [c2, c]
        have e : x0 = x2 := by rw [start, nd, e2] at es; simp at es; omega
        subst e
        exact .inr (.inr (.inl ⟨c1, c2, by omega, by omega, x1, x0, e1, e2, c, hs⟩))
      · have nd : isDown r d k = false := by rw [isDown, decide_eq_false c1, e1, e2]; simp; omega
        have e : x0 = x1 + 1 := by rw [start, nd, e1] at es; simp at es; omega
        subst e
        exact .inr (.inr (.inr ⟨c1, c2, by omega, by omega, x1, x2, e1, e2, by omega, hs⟩))
theorem RR.rd2 {w : World} {gv : Nat} {p : Option Addr} {c D : Nat} {rs : List (List Int)} {cs : List Value} (h : RR w gv (.slice p D c) rs cs) (hD : rs.length = D) : Rd w w.heap.size p rs := by
  obtain ⟨p', c', e, hr⟩ := h.rd
  simp only [Value.slice.injEq] at e
  obtain ⟨rfl, _⟩ := e
  exact hr
theorem wb_D (q : Nat → Nat → Bool) (pr : Option Addr) (rs : List (List Int)) (cr n m D : Nat) (hD : rs.length = D) (w : World) (hrd : Rd w w.heap.size pr rs) (hro : Rounds q rs) (hat : At q D n m) (hn : n ≤ 8192) (hm : m ≤ 8192) (hr : D ≤ 1000)
    (hq : ∀ x y, q x y = true → x < n ∧ y < m) :
    Calls Try.prog 15 #[.slice pr D cr, .int .i64 (n : Int), .int .i64 (m : Int), .int .i64 (D : Int)] w fun e w' => WbP q n m D w e w' := by
  subst hD
  exact wb_any q pr rs cr n m w hrd hro hat hn hm hr hq
theorem run_min1000 {a : Act} {o : Oper} {w : World} {x : Operand} (ho : o.op = .call { callee := .builtin .min, args := #[x, .const (.int .i64 1000)], argTypes := #[3, 3] }) {z l : Int} (hx : a.eval x = .int .i64 z) (hl : (if (1000 : Int) < z then 1000 else z) = l) :
    (execOp a.eval o).run Try.prog w = .ok (.value (.int .i64 l)) w := by
  subst hl
  unfold execOp
  simp [ho, resolve, invoke, hx]
  unfold builtin
  simp [run_min_int2, Act.eval]

def SeP (q : Nat → Nat → Bool) (n m : Nat) (w : World) (e : Ending) (w' : World) : Prop :=
  (ED q n m ≤ 1000 ∧ ∃ (g c : Nat) (E : List Int), e = .returned (.tuple #[.slice (some ⟨g, 0, none⟩) E.length c, .bool true]) ∧ Below w.heap.size w w' ∧ g < w'.heap.size ∧ (∀ i, i < E.length → w'.cell? ⟨g, i, none⟩ = some (.int .u8 (E.getD i 0))) ∧ E.length ≤ n + m ∧ Ok q n m E 0 0 (ED q n m)) ∨
  (1000 < ED q n m ∧ e = .returned (.tuple #[.slice none 0 0, .bool false]) ∧ Below w.heap.size w w')

set_option maxRecDepth 100000 in
set_option maxHeartbeats 8000000 in
theorem se_any (a b : Option Addr) (A B : List Int) (c d : Nat) (w : World) (ha : In w w.heap.size a A) (hb : In w w.heap.size b B) (hA : A.length ≤ 8192) (hB : B.length ≤ 8192) :
    Calls Try.prog 13 #[.slice a A.length c, .slice b B.length d] w fun e w' => SeP (qq A B) A.length B.length w e w' := by
  obtain ⟨lim, hlim, hl1, hl2, hl3⟩ : ∃ lim : Nat, (if (1000 : Int) < (A.length : Int) + (B.length : Int) then 1000 else (A.length : Int) + (B.length : Int)) = (lim : Int) ∧ lim ≤ 1000 ∧ lim ≤ A.length + B.length ∧ (lim = 1000 ∨ lim = A.length + B.length) := by
    by_cases h : 1000 < A.length + B.length
    · exact ⟨1000, by rw [if_pos (by omega)]; rfl, by omega, by omega, .inl rfl⟩
    · exact ⟨A.length + B.length, by rw [if_neg (by omega)]; simp, by omega, by omega, .inr rfl⟩
  have HLIM := Hid.mk' hlim
  have H3 := Hid.mk' hl3
  clear hlim hl3
  obtain ⟨q, hq⟩ : ∃ q, qq A B = q := ⟨_, rfl⟩
  have hin := qq_in A B
  have hqv : ∀ x y, x < A.length → y < B.length → q x y = decide (A.getD x 0 = B.getD y 0) := by
    intro x y h1 h2
    rw [← hq, qq]; simp [h1, h2]
  rw [hq] at hin ⊢
  clear hq
  go_enter Try.func13, Try.ntmps13
  go_wp2_with (first
    | (refine wpl_val rfl _ (run_min1000 rfl rfl HLIM.out) ?_; simp only [Act.put, List.setIfInBounds_toArray, List.set_cons_zero, List.set_cons_succ])
    | (refine wpl_make3 rfl rfl (2 * lim + 3) _ rfl rfl (by omega) (by omega) ?_; intro gv w1 hs1 hb1 hg1; simp only [Act.put, List.setIfInBounds_toArray, List.set_cons_zero, List.set_cons_succ]))
  have hst : SE q A.length B.length lim w gv w1 (.slice none 0 0) [] [] (List.replicate (2 * lim + 3) 0) 0 0 := ⟨hs1, Tb.start q _ _ _, RR.nil _ _, fun r hr => by simp at hr, Nat.zero_le _, hb1, rfl⟩
  clear hs1 hb1
  go_loopw [11, 12] (fun vr vd wr => ∃ (rs : List (List Int)) (cs : List Value) (V : List Int), vd = .int .i64 (rs.length : Int) ∧ rs.length ≤ lim + 1 ∧ SE q A.length B.length lim w gv wr vr rs cs V rs.length 0) (fun _ vd _ => (lim + 1 - intOf vd).toNat)
  case atStart => exact ⟨[], [], _, rfl, by simp, hst⟩
  case round =>
    clear hst
    obtain ⟨rs, cs, V, rfl, hdl, hse⟩ := hrel
    obtain ⟨p, cr, hv, _⟩ := hse.rr.rd
    subst hv
    by_cases hd : rs.length ≤ lim
    · obtain ⟨D, hD⟩ : ∃ D, rs.length = D := ⟨_, rfl⟩
      rw [hD] at hd hse
      rw [hD]
      clear hD hdl
      go_wp2
      go_loopw [13] (fun vk wr => ∃ (i : Nat) (V : List Int), vk = .int .i64 (2 * (i : Int) - (D : Int)) ∧ i ≤ D + 1 ∧ SE q A.length B.length lim w gv wr (.slice p D cr) rs cs V D i) (fun vk _ => (D + 2 - intOf vk).toNat)
      case atStart => exact ⟨0, V, by simp, by omega, hse⟩
      case round =>
        clear hse
        obtain ⟨i, V, rfl, hi1, hse⟩ := hrel
        by_cases hi : i ≤ D
        · obtain ⟨kk, hkk⟩ : ∃ kk : Int, 2 * (i : Int) - (D : Int) = kk := ⟨_, rfl⟩
          have cases4 := fwd q hse.tb.prev hi hkk
          have HK : Hid (2 * (i : Int) - (D : Int) = kk) := hkk
          rw [hkk]
          have hk1 : -(D : Int) ≤ kk := by omega
          have hk2 : kk ≤ (D : Int) := by omega
          clear hkk
          rcases cases4 with ⟨k1, x0, e0, hfs⟩ | ⟨k1, k2, x1, e1, hfs⟩ | ⟨k1, k2, k3, k4, x1, x2, e1, e2, h12, hfs⟩ | ⟨k1, k2, k3, k4, x1, x2, e1, e2, h12, hfs⟩
          all_goals (have HFS := Hid.mk' hfs; obtain ⟨y0, hy1, hy0, _⟩ := hfs; have hbx0 := ED_bx q hin hy0; have hby0 := ED_by q hin hy0)
          · subst k1
            have c1 : wr.cell? ⟨gv, ((lim : Int) + 1 + -(D : Int) + 1).toNat, none⟩ = some (.int .i64 (x0 : Int)) := by
              rw [hse.blk.i (by rw [hse.tb.len]; omega)]; congr 2
              rw [← e0, rV]; congr 1; omega
            clear e0
            go_wp2
            go_quiet (fail)
            go_wp2
            go_loopw [14, 15] (fun vx vy wr => ∃ (x y : Nat), vx = .int .i64 (x : Int) ∧ vy = .int .i64 (y : Int) ∧ x0 ≤ x ∧ (x : Int) - y = (-(D : Int)) ∧ ED q x y ≤ D ∧ SE q A.length B.length lim w gv wr (.slice p D cr) rs cs V D i) (fun vx _ _ => (A.length - intOf vx).toNat)
            case atStart => exact ⟨x0, y0, by go_num, (by congr 1; omega), Nat.le_refl _, by omega, hy0, SE.drewN hse _⟩
            case round =>
              obtain ⟨x, y, rfl, rfl, hx0, hxy, hed, hse'⟩ := hrel
              clear hse
              have hse := hse'
              clear hse'
              have HXY : Hid ((x : Int) - y = (-(D : Int))) := hxy
              have hbx := ED_bx q hin hed
              have hby := ED_by q hin hed
              clear hxy
              by_cases hxn : x < A.length
              · have hxn' : (x : Int) < (A.length : Int) := by omega
                obtain ⟨ga, hpa, hga, hac⟩ := ha x hxn
                have hac' := (hse.bel.cell (p := ⟨ga, x, none⟩) hga).trans hac
                by_cases hym : y < B.length
                · have hym' : (y : Int) < (B.length : Int) := by omega
                  obtain ⟨gb, hpb, hgb, hbc⟩ := hb y hym
                  have hbc' := (hse.bel.cell (p := ⟨gb, y, none⟩) hgb).trans hbc
                  have hqxy := hqv x y hxn hym
                  obtain ⟨za, hza⟩ : ∃ z, A.getD x 0 = z := ⟨_, rfl⟩
                  obtain ⟨zb, hzb⟩ : ∃ z, B.getD y 0 = z := ⟨_, rfl⟩
                  rw [hza] at hac' hqxy
                  rw [hzb] at hbc' hqxy
                  clear hac hbc hza hzb
                  subst hpa hpb
                  by_cases hab : za = zb
                  · subst hab
                    have hq1 : q x y = true := by rw [hqxy]; simp
                    have HE := Hid.mk' (ED_eq q hq1)
                    clear hqxy hq1
                    go_wp2
                    go_quiet (fail)
                    go_wp2
                    go_roundw
                    case rel => exact ⟨x + 1, y + 1, by go_num, by go_num, by omega, (by have := HXY.out; omega), (by rw [HE.out]; exact hed), SE.drewN hse _⟩
                    case measure => (simp [intOf]; omega)
                  · have hq1 : q x y = false := by rw [hqxy]; simp [hab]
                    have hfr := Hid.mk' (Fs.fr q HFS.out hx0 HXY.out hed hq1)
                    have hzz : (za == zb) = false := by simpa using hab
                    clear hqxy hq1 hab
                    go_wp2
                    go_quiet (fail)
                    go_wp2_with (first
                      | (refine wpl_storeI size3 rfl rfl rfl rfl hse.blk (by rw [iv_length, hse.tb.len]; omega) ?_; intro w9 hs9 hb9 hk9; rw [iv_set] at hs9; simp only [Act.put]))
                    have hse9 : SE q A.length B.length lim w gv w9 (.slice p D cr) rs cs (V.set (lim + 1 + 2 * i - D) x) D (i + 1) := SE.store hse hd hi (fr_cast HK.out hfr.out) (by have := HK.out; have := HXY.out; omega) hg1 (by rw [show lim + 1 + 2 * i - D = ((lim : Int) + 1 + (-(D : Int))).toNat by have := HK.out; omega]; exact hs9) hb9 hk9
                    go_roundw
                    case rel => exact ⟨i + 1, _, (by congr 1; have := HK.out; omega), by omega, hse9⟩
                    case measure => (simp [intOf]; have := HK.out; omega)
                · have hym' : (B.length : Int) ≤ (y : Int) := by omega
                  have hq1 : q x y = false := by
                    cases e : q x y
                    · rfl
                    · have := hin x y e; omega
                  have hfr := Hid.mk' (Fs.fr q HFS.out hx0 HXY.out hed hq1)
                  have hdy : decide ((y : Int) < (B.length : Int)) = false := decide_eq_false (by omega)
                  clear hq1 hac hac' hpa
                  go_wp2
                  go_quiet (fail)
                  go_wp2_with (first
                    | (refine wpl_storeI size3 rfl rfl rfl rfl hse.blk (by rw [iv_length, hse.tb.len]; omega) ?_; intro w9 hs9 hb9 hk9; rw [iv_set] at hs9; simp only [Act.put]))
                  have hse9 : SE q A.length B.length lim w gv w9 (.slice p D cr) rs cs (V.set (lim + 1 + 2 * i - D) x) D (i + 1) := SE.store hse hd hi (fr_cast HK.out hfr.out) (by have := HK.out; have := HXY.out; omega) hg1 (by rw [show lim + 1 + 2 * i - D = ((lim : Int) + 1 + (-(D : Int))).toNat by have := HK.out; omega]; exact hs9) hb9 hk9
                  go_roundw
                  case rel => exact ⟨i + 1, _, (by congr 1; have := HK.out; omega), by omega, hse9⟩
                  case measure => (simp [intOf]; have := HK.out; omega)
              · have hxn' : (A.length : Int) ≤ (x : Int) := by omega
                have hq1 : q x y = false := by
                  cases e : q x y
                  · rfl
                  · have := hin x y e; omega
                have hfr := Hid.mk' (Fs.fr q HFS.out hx0 HXY.out hed hq1)
                have hdx : decide ((x : Int) < (A.length : Int)) = false := decide_eq_false (by omega)
                clear hq1
                by_cases hym : B.length ≤ y
                · have hym' : (B.length : Int) ≤ (y : Int) := by omega
                  go_wp2
                  go_quiet (fail)
                  obtain ⟨ex, ey, eD⟩ := at_end q hin hed (by omega) (by omega) hse.far
                  subst ex ey
                  have hat : At q D A.length B.length := ⟨(by have := hfr.out; rw [← HXY.out] at this; exact this), i, hi, (by have := HK.out; have := HXY.out; omega)⟩
                  go_wp2_with (first
                    | (refine wpl_storeI size3 rfl rfl rfl rfl hse.blk (by rw [iv_length, hse.tb.len]; omega) ?_; intro w9 hs9 hb9 hk9; rw [iv_set] at hs9; simp only [Act.put])
                    | (go_at_call 15; refine (wb_D q p rs cr A.length B.length D hse.hD _ ((hse.rr.kept (fun k h1 h2 => hk9 k (by omega))).rd2 hse.hD) hse.ro hat hA hB (by omega) hin).mono ?_; rintro e w8 ⟨g8, c8, E8, rfl, hb8, hlt8, hcl8, hln8, hok8⟩))
                  go_ret2
                  exact .inl ⟨by omega, g8, c8, E8, rfl, hse.bel.trans ((Below.trans (Below.drewN' _ _ _) (hb9 _ hg1)).trans (hb8.mono (by have := (hb9 0 (Nat.zero_le _)).size; exact Nat.le_trans hse.bel.size this))), hlt8, hcl8, hln8, by rw [eD]; exact hok8⟩
                · have hym' : (y : Int) < (B.length : Int) := by omega
                  go_wp2
                  go_quiet (fail)
                  go_wp2_with (first
                    | (refine wpl_storeI size3 rfl rfl rfl rfl hse.blk (by rw [iv_length, hse.tb.len]; omega) ?_; intro w9 hs9 hb9 hk9; rw [iv_set] at hs9; simp only [Act.put]))
                  have hse9 : SE q A.length B.length lim w gv w9 (.slice p D cr) rs cs (V.set (lim + 1 + 2 * i - D) x) D (i + 1) := SE.store hse hd hi (fr_cast HK.out hfr.out) (by have := HK.out; have := HXY.out; omega) hg1 (by rw [show lim + 1 + 2 * i - D = ((lim : Int) + 1 + (-(D : Int))).toNat by have := HK.out; omega]; exact hs9) hb9 hk9
                  go_roundw
                  case rel => exact ⟨i + 1, _, (by congr 1; have := HK.out; omega), by omega, hse9⟩
                  case measure => (simp [intOf]; have := HK.out; omega)
          · subst k2
            have kb : ((D : Int) == -(D : Int)) = false := by simp; omega
            have c1 : ∀ j : Nat, j = lim + D → wr.cell? ⟨gv, j, none⟩ = some (.int .i64 (x1 : Int)) := by
              intro j hj
              rw [hse.blk.i (by rw [hse.tb.len]; omega)]; congr 2
              rw [← e1, rV]; congr 1; omega
            have c2 := c1 ((lim : Int) + 1 + (D : Int) - 1).toNat (by omega)
            have c3 := c1 (lim + 1 + D - 1) (by omega)
            have c4 := c1 (lim + D) (by omega)
            have c5 := c1 (((lim : Int) + 1 + (D : Int)).toNat - 1) (by omega)
            clear e1 c1 k1
            go_wp2
            go_quiet (fail)
            go_wp2
            go_loopw [14, 15] (fun vx vy wr => ∃ (x y : Nat), vx = .int .i64 (x : Int) ∧ vy = .int .i64 (y : Int) ∧ (x1 + 1) ≤ x ∧ (x : Int) - y = (D : Int) ∧ ED q x y ≤ D ∧ SE q A.length B.length lim w gv wr (.slice p D cr) rs cs V D i) (fun vx _ _ => (A.length - intOf vx).toNat)
            case atStart => exact ⟨(x1 + 1), y0, by go_num, (by congr 1; omega), Nat.le_refl _, by omega, hy0, SE.drewN hse _⟩
            case round =>
              obtain ⟨x, y, rfl, rfl, hx0, hxy, hed, hse'⟩ := hrel
              clear hse
              have hse := hse'
              clear hse'
              have HXY : Hid ((x : Int) - y = (D : Int)) := hxy
              have hbx := ED_bx q hin hed
              have hby := ED_by q hin hed
              clear hxy
              by_cases hxn : x < A.length
              · have hxn' : (x : Int) < (A.length : Int) := by omega
                obtain ⟨ga, hpa, hga, hac⟩ := ha x hxn
                have hac' := (hse.bel.cell (p := ⟨ga, x, none⟩) hga).trans hac
                by_cases hym : y < B.length
                · have hym' : (y : Int) < (B.length : Int) := by omega
                  obtain ⟨gb, hpb, hgb, hbc⟩ := hb y hym
                  have hbc' := (hse.bel.cell (p := ⟨gb, y, none⟩) hgb).trans hbc
                  have hqxy := hqv x y hxn hym
                  obtain ⟨za, hza⟩ : ∃ z, A.getD x 0 = z := ⟨_, rfl⟩
                  obtain ⟨zb, hzb⟩ : ∃ z, B.getD y 0 = z := ⟨_, rfl⟩
                  rw [hza] at hac' hqxy
                  rw [hzb] at hbc' hqxy
                  clear hac hbc hza hzb
                  subst hpa hpb
                  by_cases hab : za = zb
                  · subst hab
                    have hq1 : q x y = true := by rw [hqxy]; simp
                    have HE := Hid.mk' (ED_eq q hq1)
                    clear hqxy hq1
                    go_wp2
                    go_quiet (fail)
                    go_wp2
                    go_roundw
                    case rel => exact ⟨x + 1, y + 1, by go_num, by go_num, by omega, (by have := HXY.out; omega), (by rw [HE.out]; exact hed), SE.drewN hse _⟩
                    case measure => (simp [intOf]; omega)
                  · have hq1 : q x y = false := by rw [hqxy]; simp [hab]
                    have hfr := Hid.mk' (Fs.fr q HFS.out hx0 HXY.out hed hq1)
                    have hzz : (za == zb) = false := by simpa using hab
                    clear hqxy hq1 hab
                    go_wp2
                    go_quiet (fail)
                    go_wp2_with (first
                      | (refine wpl_storeI size3 rfl rfl rfl rfl hse.blk (by rw [iv_length, hse.tb.len]; omega) ?_; intro w9 hs9 hb9 hk9; rw [iv_set] at hs9; simp only [Act.put]))
                    have hse9 : SE q A.length B.length lim w gv w9 (.slice p D cr) rs cs (V.set (lim + 1 + 2 * i - D) x) D (i + 1) := SE.store hse hd hi (fr_cast HK.out hfr.out) (by have := HK.out; have := HXY.out; omega) hg1 (by rw [show lim + 1 + 2 * i - D = ((lim : Int) + 1 + (D : Int)).toNat by have := HK.out; omega]; exact hs9) hb9 hk9
                    go_roundw
                    case rel => exact ⟨i + 1, _, (by congr 1; have := HK.out; omega), by omega, hse9⟩
                    case measure => (simp [intOf]; have := HK.out; omega)
                · have hym' : (B.length : Int) ≤ (y : Int) := by omega
                  have hq1 : q x y = false := by
                    cases e : q x y
                    · rfl
                    · have := hin x y e; omega
                  have hfr := Hid.mk' (Fs.fr q HFS.out hx0 HXY.out hed hq1)
                  have hdy : decide ((y : Int) < (B.length : Int)) = false := decide_eq_false (by omega)
                  clear hq1 hac hac' hpa
                  go_wp2
                  go_quiet (fail)
                  go_wp2_with (first
                    | (refine wpl_storeI size3 rfl rfl rfl rfl hse.blk (by rw [iv_length, hse.tb.len]; omega) ?_; intro w9 hs9 hb9 hk9; rw [iv_set] at hs9; simp only [Act.put]))
                  have hse9 : SE q A.length B.length lim w gv w9 (.slice p D cr) rs cs (V.set (lim + 1 + 2 * i - D) x) D (i + 1) := SE.store hse hd hi (fr_cast HK.out hfr.out) (by have := HK.out; have := HXY.out; omega) hg1 (by rw [show lim + 1 + 2 * i - D = ((lim : Int) + 1 + (D : Int)).toNat by have := HK.out; omega]; exact hs9) hb9 hk9
                  go_roundw
                  case rel => exact ⟨i + 1, _, (by congr 1; have := HK.out; omega), by omega, hse9⟩
                  case measure => (simp [intOf]; have := HK.out; omega)
              · have hxn' : (A.length : Int) ≤ (x : Int) := by omega
                have hq1 : q x y = false := by
                  cases e : q x y
                  · rfl
                  · have := hin x y e; omega
                have hfr := Hid.mk' (Fs.fr q HFS.out hx0 HXY.out hed hq1)
                have hdx : decide ((x : Int) < (A.length : Int)) = false := decide_eq_false (by omega)
                clear hq1
                by_cases hym : B.length ≤ y
                · have hym' : (B.length : Int) ≤ (y : Int) := by omega
                  go_wp2
                  go_quiet (fail)
                  obtain ⟨ex, ey, eD⟩ := at_end q hin hed (by omega) (by omega) hse.far
                  subst ex ey
                  have hat : At q D A.length B.length := ⟨(by have := hfr.out; rw [← HXY.out] at this; exact this), i, hi, (by have := HK.out; have := HXY.out; omega)⟩
                  go_wp2_with (first
                    | (refine wpl_storeI size3 rfl rfl rfl rfl hse.blk (by rw [iv_length, hse.tb.len]; omega) ?_; intro w9 hs9 hb9 hk9; rw [iv_set] at hs9; simp only [Act.put])
                    | (go_at_call 15; refine (wb_D q p rs cr A.length B.length D hse.hD _ ((hse.rr.kept (fun k h1 h2 => hk9 k (by omega))).rd2 hse.hD) hse.ro hat hA hB (by omega) hin).mono ?_; rintro e w8 ⟨g8, c8, E8, rfl, hb8, hlt8, hcl8, hln8, hok8⟩))
                  go_ret2
                  exact .inl ⟨by omega, g8, c8, E8, rfl, hse.bel.trans ((Below.trans (Below.drewN' _ _ _) (hb9 _ hg1)).trans (hb8.mono (by have := (hb9 0 (Nat.zero_le _)).size; exact Nat.le_trans hse.bel.size this))), hlt8, hcl8, hln8, by rw [eD]; exact hok8⟩
                · have hym' : (y : Int) < (B.length : Int) := by omega
                  go_wp2
                  go_quiet (fail)
                  go_wp2_with (first
                    | (refine wpl_storeI size3 rfl rfl rfl rfl hse.blk (by rw [iv_length, hse.tb.len]; omega) ?_; intro w9 hs9 hb9 hk9; rw [iv_set] at hs9; simp only [Act.put]))
                  have hse9 : SE q A.length B.length lim w gv w9 (.slice p D cr) rs cs (V.set (lim + 1 + 2 * i - D) x) D (i + 1) := SE.store hse hd hi (fr_cast HK.out hfr.out) (by have := HK.out; have := HXY.out; omega) hg1 (by rw [show lim + 1 + 2 * i - D = ((lim : Int) + 1 + (D : Int)).toNat by have := HK.out; omega]; exact hs9) hb9 hk9
                  go_roundw
                  case rel => exact ⟨i + 1, _, (by congr 1; have := HK.out; omega), by omega, hse9⟩
                  case measure => (simp [intOf]; have := HK.out; omega)
          · have kb : (kk == -(D : Int)) = false := by simp; omega
            have kb2 : (kk == (D : Int)) = false := by simp; omega
            have kb4 : (kk != (D : Int)) = true := by simp; omega
            have kw : IntKind.i64.wrap (-(D : Int)) = -(D : Int) := by rw [IntKind.wrap_i64]; omega
            have kb3 : (kk == IntKind.i64.wrap (-(D : Int))) = false := by rw [kw]; exact kb
            have g1 : ∀ j : Nat, (j : Int) = lim + kk → wr.cell? ⟨gv, j, none⟩ = some (.int .i64 (x1 : Int)) := by
              intro j hj
              rw [hse.blk.i (by rw [hse.tb.len]; omega)]; congr 2
              rw [← e1, rV]; congr 1; omega
            have g2 : ∀ j : Nat, (j : Int) = lim + 2 + kk → wr.cell? ⟨gv, j, none⟩ = some (.int .i64 (x2 : Int)) := by
              intro j hj
              rw [hse.blk.i (by rw [hse.tb.len]; omega)]; congr 2
              rw [← e2, rV]; congr 1; omega
            have c2 := g1 ((lim : Int) + 1 + kk - 1).toNat (by omega)
            have c3 := g1 (((lim : Int) + 1 + kk).toNat - 1) (by omega)
            have c4 := g1 ((lim : Int) + kk).toNat (by omega)
            have c5 := g2 ((lim : Int) + 1 + kk + 1).toNat (by omega)
            have c6 := g2 (((lim : Int) + 1 + kk).toNat + 1) (by omega)
            have h12' : (x1 : Int) < x2 := by omega
            have hdc : decide ((x1 : Int) < (x2 : Int)) = true := decide_eq_true h12'
            clear e1 e2 k1 k2 g1 g2
            go_wp2
            go_quiet (fail)
            go_wp2
            go_loopw [14, 15] (fun vx vy wr => ∃ (x y : Nat), vx = .int .i64 (x : Int) ∧ vy = .int .i64 (y : Int) ∧ x2 ≤ x ∧ (x : Int) - y = kk ∧ ED q x y ≤ D ∧ SE q A.length B.length lim w gv wr (.slice p D cr) rs cs V D i) (fun vx _ _ => (A.length - intOf vx).toNat)
            case atStart => exact ⟨x2, y0, by go_num, (by congr 1; omega), Nat.le_refl _, by omega, hy0, SE.drewN hse _⟩
            case round =>
              obtain ⟨x, y, rfl, rfl, hx0, hxy, hed, hse'⟩ := hrel
              clear hse
              have hse := hse'
              clear hse'
              have HXY : Hid ((x : Int) - y = kk) := hxy
              have hbx := ED_bx q hin hed
              have hby := ED_by q hin hed
              clear hxy
              by_cases hxn : x < A.length
              · have hxn' : (x : Int) < (A.length : Int) := by omega
                obtain ⟨ga, hpa, hga, hac⟩ := ha x hxn
                have hac' := (hse.bel.cell (p := ⟨ga, x, none⟩) hga).trans hac
                by_cases hym : y < B.length
                · have hym' : (y : Int) < (B.length : Int) := by omega
                  obtain ⟨gb, hpb, hgb, hbc⟩ := hb y hym
                  have hbc' := (hse.bel.cell (p := ⟨gb, y, none⟩) hgb).trans hbc
                  have hqxy := hqv x y hxn hym
                  obtain ⟨za, hza⟩ : ∃ z, A.getD x 0 = z := ⟨_, rfl⟩
                  obtain ⟨zb, hzb⟩ : ∃ z, B.getD y 0 = z := ⟨_, rfl⟩
                  rw [hza] at hac' hqxy
                  rw [hzb] at hbc' hqxy
                  clear hac hbc hza hzb
                  subst hpa hpb
                  by_cases hab : za = zb
                  · subst hab
                    have hq1 : q x y = true := by rw [hqxy]; simp
                    have HE := Hid.mk' (ED_eq q hq1)
                    clear hqxy hq1
                    go_wp2
                    go_quiet (fail)
                    go_wp2
                    go_roundw
                    case rel => exact ⟨x + 1, y + 1, by go_num, by go_num, by omega, (by have := HXY.out; omega), (by rw [HE.out]; exact hed), SE.drewN hse _⟩
                    case measure => (simp [intOf]; omega)
                  · have hq1 : q x y = false := by rw [hqxy]; simp [hab]
                    have hfr := Hid.mk' (Fs.fr q HFS.out hx0 HXY.out hed hq1)
                    have hzz : (za == zb) = false := by simpa using hab
                    clear hqxy hq1 hab
                    go_wp2
                    go_quiet (fail)
                    go_wp2_with (first
                      | (refine wpl_storeI size3 rfl rfl rfl rfl hse.blk (by rw [iv_length, hse.tb.len]; omega) ?_; intro w9 hs9 hb9 hk9; rw [iv_set] at hs9; simp only [Act.put]))
                    have hse9 : SE q A.length B.length lim w gv w9 (.slice p D cr) rs cs (V.set (lim + 1 + 2 * i - D) x) D (i + 1) := SE.store hse hd hi (fr_cast HK.out hfr.out) (by have := HK.out; have := HXY.out; omega) hg1 (by rw [show lim + 1 + 2 * i - D = ((lim : Int) + 1 + kk).toNat by have := HK.out; omega]; exact hs9) hb9 hk9
                    go_roundw
                    case rel => exact ⟨i + 1, _, (by congr 1; have := HK.out; omega), by omega, hse9⟩
                    case measure => (simp [intOf]; have := HK.out; omega)
                · have hym' : (B.length : Int) ≤ (y : Int) := by omega
                  have hq1 : q x y = false := by
                    cases e : q x y
                    · rfl
                    · have := hin x y e; omega
                  have hfr := Hid.mk' (Fs.fr q HFS.out hx0 HXY.out hed hq1)
                  have hdy : decide ((y : Int) < (B.length : Int)) = false := decide_eq_false (by omega)
                  clear hq1 hac hac' hpa
                  go_wp2
                  go_quiet (fail)
                  go_wp2_with (first
                    | (refine wpl_storeI size3 rfl rfl rfl rfl hse.blk (by rw [iv_length, hse.tb.len]; omega) ?_; intro w9 hs9 hb9 hk9; rw [iv_set] at hs9; simp only [Act.put]))
                  have hse9 : SE q A.length B.length lim w gv w9 (.slice p D cr) rs cs (V.set (lim + 1 + 2 * i - D) x) D (i + 1) := SE.store hse hd hi (fr_cast HK.out hfr.out) (by have := HK.out; have := HXY.out; omega) hg1 (by rw [show lim + 1 + 2 * i - D = ((lim : Int) + 1 + kk).toNat by have := HK.out; omega]; exact hs9) hb9 hk9
                  go_roundw
                  case rel => exact ⟨i + 1, _, (by congr 1; have := HK.out; omega), by omega, hse9⟩
                  case measure => (simp [intOf]; have := HK.out; omega)
              · have hxn' : (A.length : Int) ≤ (x : Int) := by omega
                have hq1 : q x y = false := by
                  cases e : q x y
                  · rfl
                  · have := hin x y e; omega
                have hfr := Hid.mk' (Fs.fr q HFS.out hx0 HXY.out hed hq1)
                have hdx : decide ((x : Int) < (A.length : Int)) = false := decide_eq_false (by omega)
                clear hq1
                by_cases hym : B.length ≤ y
                · have hym' : (B.length : Int) ≤ (y : Int) := by omega
                  go_wp2
                  go_quiet (fail)
                  obtain ⟨ex, ey, eD⟩ := at_end q hin hed (by omega) (by omega) hse.far
                  subst ex ey
                  have hat : At q D A.length B.length := ⟨(by have := hfr.out; rw [← HXY.out] at this; exact this), i, hi, (by have := HK.out; have := HXY.out; omega)⟩
                  go_wp2_with (first
                    | (refine wpl_storeI size3 rfl rfl rfl rfl hse.blk (by rw [iv_length, hse.tb.len]; omega) ?_; intro w9 hs9 hb9 hk9; rw [iv_set] at hs9; simp only [Act.put])
                    | (go_at_call 15; refine (wb_D q p rs cr A.length B.length D hse.hD _ ((hse.rr.kept (fun k h1 h2 => hk9 k (by omega))).rd2 hse.hD) hse.ro hat hA hB (by omega) hin).mono ?_; rintro e w8 ⟨g8, c8, E8, rfl, hb8, hlt8, hcl8, hln8, hok8⟩))
                  go_ret2
                  exact .inl ⟨by omega, g8, c8, E8, rfl, hse.bel.trans ((Below.trans (Below.drewN' _ _ _) (hb9 _ hg1)).trans (hb8.mono (by have := (hb9 0 (Nat.zero_le _)).size; exact Nat.le_trans hse.bel.size this))), hlt8, hcl8, hln8, by rw [eD]; exact hok8⟩
                · have hym' : (y : Int) < (B.length : Int) := by omega
                  go_wp2
                  go_quiet (fail)
                  go_wp2_with (first
                    | (refine wpl_storeI size3 rfl rfl rfl rfl hse.blk (by rw [iv_length, hse.tb.len]; omega) ?_; intro w9 hs9 hb9 hk9; rw [iv_set] at hs9; simp only [Act.put]))
                  have hse9 : SE q A.length B.length lim w gv w9 (.slice p D cr) rs cs (V.set (lim + 1 + 2 * i - D) x) D (i + 1) := SE.store hse hd hi (fr_cast HK.out hfr.out) (by have := HK.out; have := HXY.out; omega) hg1 (by rw [show lim + 1 + 2 * i - D = ((lim : Int) + 1 + kk).toNat by have := HK.out; omega]; exact hs9) hb9 hk9
                  go_roundw
                  case rel => exact ⟨i + 1, _, (by congr 1; have := HK.out; omega), by omega, hse9⟩
                  case measure => (simp [intOf]; have := HK.out; omega)
          · have kb : (kk == -(D : Int)) = false := by simp; omega
            have kb2 : (kk == (D : Int)) = false := by simp; omega
            have kb4 : (kk != (D : Int)) = true := by simp; omega
            have kw : IntKind.i64.wrap (-(D : Int)) = -(D : Int) := by rw [IntKind.wrap_i64]; omega
            have kb3 : (kk == IntKind.i64.wrap (-(D : Int))) = false := by rw [kw]; exact kb
            have g1 : ∀ j : Nat, (j : Int) = lim + kk → wr.cell? ⟨gv, j, none⟩ = some (.int .i64 (x1 : Int)) := by
              intro j hj
              rw [hse.blk.i (by rw [hse.tb.len]; omega)]; congr 2
              rw [← e1, rV]; congr 1; omega
            have g2 : ∀ j : Nat, (j : Int) = lim + 2 + kk → wr.cell? ⟨gv, j, none⟩ = some (.int .i64 (x2 : Int)) := by
              intro j hj
              rw [hse.blk.i (by rw [hse.tb.len]; omega)]; congr 2
              rw [← e2, rV]; congr 1; omega
            have c2 := g1 ((lim : Int) + 1 + kk - 1).toNat (by omega)
            have c3 := g1 (((lim : Int) + 1 + kk).toNat - 1) (by omega)
            have c4 := g1 ((lim : Int) + kk).toNat (by omega)
            have c5 := g2 ((lim : Int) + 1 + kk + 1).toNat (by omega)
            have c6 := g2 (((lim : Int) + 1 + kk).toNat + 1) (by omega)
            have h12' : (x2 : Int) ≤ x1 := by omega
            have hdc : decide ((x1 : Int) < (x2 : Int)) = false := decide_eq_false (by omega)
            clear e1 e2 k1 k2 g1 g2
            go_wp2
            go_quiet (fail)
            go_wp2
            go_loopw [14, 15] (fun vx vy wr => ∃ (x y : Nat), vx = .int .i64 (x : Int) ∧ vy = .int .i64 (y : Int) ∧ (x1 + 1) ≤ x ∧ (x : Int) - y = kk ∧ ED q x y ≤ D ∧ SE q A.length B.length lim w gv wr (.slice p D cr) rs cs V D i) (fun vx _ _ => (A.length - intOf vx).toNat)
            case atStart => exact ⟨(x1 + 1), y0, by go_num, (by congr 1; omega), Nat.le_refl _, by omega, hy0, SE.drewN hse _⟩
            case round =>
              obtain ⟨x, y, rfl, rfl, hx0, hxy, hed, hse'⟩ := hrel
              clear hse
              have hse := hse'
              clear hse'
              have HXY : Hid ((x : Int) - y = kk) := hxy
              have hbx := ED_bx q hin hed
              have hby := ED_by q hin hed
              clear hxy
              by_cases hxn : x < A.length
              · have hxn' : (x : Int) < (A.length : Int) := by omega
                obtain ⟨ga, hpa, hga, hac⟩ := ha x hxn
                have hac' := (hse.bel.cell (p := ⟨ga, x, none⟩) hga).trans hac
                by_cases hym : y < B.length
                · have hym' : (y : Int) < (B.length : Int) := by omega
                  obtain ⟨gb, hpb, hgb, hbc⟩ := hb y hym
                  have hbc' := (hse.bel.cell (p := ⟨gb, y, none⟩) hgb).trans hbc
                  have hqxy := hqv x y hxn hym
                  obtain ⟨za, hza⟩ : ∃ z, A.getD x 0 = z := ⟨_, rfl⟩
                  obtain ⟨zb, hzb⟩ : ∃ z, B.getD y 0 = z := ⟨_, rfl⟩
                  rw [hza] at hac' hqxy
                  rw [hzb] at hbc' hqxy
                  clear hac hbc hza hzb
                  subst hpa hpb
                  by_cases hab : za = zb
                  · subst hab
                    have hq1 : q x y = true := by rw [hqxy]; simp
                    have HE := Hid.mk' (ED_eq q hq1)
                    clear hqxy hq1
                    go_wp2
                    go_quiet (fail)
                    go_wp2
                    go_roundw
                    case rel => exact ⟨x + 1, y + 1, by go_num, by go_num, by omega, (by have := HXY.out; omega), (by rw [HE.out]; exact hed), SE.drewN hse _⟩
                    case measure => (simp [intOf]; omega)
                  · have hq1 : q x y = false := by rw [hqxy]; simp [hab]
                    have hfr := Hid.mk' (Fs.fr q HFS.out hx0 HXY.out hed hq1)
                    have hzz : (za == zb) = false := by simpa using hab
                    clear hqxy hq1 hab
                    go_wp2
                    go_quiet (fail)
                    go_wp2_with (first
                      | (refine wpl_storeI size3 rfl rfl rfl rfl hse.blk (by rw [iv_length, hse.tb.len]; omega) ?_; intro w9 hs9 hb9 hk9; rw [iv_set] at hs9; simp only [Act.put]))
                    have hse9 : SE q A.length B.length lim w gv w9 (.slice p D cr) rs cs (V.set (lim + 1 + 2 * i - D) x) D (i + 1) := SE.store hse hd hi (fr_cast HK.out hfr.out) (by have := HK.out; have := HXY.out; omega) hg1 (by rw [show lim + 1 + 2 * i - D = ((lim : Int) + 1 + kk).toNat by have := HK.out; omega]; exact hs9) hb9 hk9
                    go_roundw
                    case rel => exact ⟨i + 1, _, (by congr 1; have := HK.out; omega), by omega, hse9⟩
                    case measure => (simp [intOf]; have := HK.out; omega)
                · have hym' : (B.length : Int) ≤ (y : Int) := by omega
                  have hq1 : q x y = false := by
                    cases e : q x y
                    · rfl
                    · have := hin x y e; omega
                  have hfr := Hid.mk' (Fs.fr q HFS.out hx0 HXY.out hed hq1)
                  have hdy : decide ((y : Int) < (B.length : Int)) = false := decide_eq_false (by omega)
                  clear hq1 hac hac' hpa
                  go_wp2
                  go_quiet (fail)
                  go_wp2_with (first
                    | (refine wpl_storeI size3 rfl rfl rfl rfl hse.blk (by rw [iv_length, hse.tb.len]; omega) ?_; intro w9 hs9 hb9 hk9; rw [iv_set] at hs9; simp only [Act.put]))
                  have hse9 : SE q A.length B.length lim w gv w9 (.slice p D cr) rs cs (V.set (lim + 1 + 2 * i - D) x) D (i + 1) := SE.store hse hd hi (fr_cast HK.out hfr.out) (by have := HK.out; have := HXY.out; omega) hg1 (by rw [show lim + 1 + 2 * i - D = ((lim : Int) + 1 + kk).toNat by have := HK.out; omega]; exact hs9) hb9 hk9
                  go_roundw
                  case rel => exact ⟨i + 1, _, (by congr 1; have := HK.out; omega), by omega, hse9⟩
                  case measure => (simp [intOf]; have := HK.out; omega)
              · have hxn' : (A.length : Int) ≤ (x : Int) := by omega
                have hq1 : q x y = false := by
                  cases e : q x y
                  · rfl
                  · have := hin x y e; omega
                have hfr := Hid.mk' (Fs.fr q HFS.out hx0 HXY.out hed hq1)
                have hdx : decide ((x : Int) < (A.length : Int)) = false := decide_eq_false (by omega)
                clear hq1
                by_cases hym : B.length ≤ y
                · have hym' : (B.length : Int) ≤ (y : Int) := by omega
                  go_wp2
                  go_quiet (fail)
                  obtain ⟨ex, ey, eD⟩ := at_end q hin hed (by omega) (by omega) hse.far
                  subst ex ey
                  have hat : At q D A.length B.length := ⟨(by have := hfr.out; rw [← HXY.out] at this; exact this), i, hi, (by have := HK.out; have := HXY.out; omega)⟩
                  go_wp2_with (first
                    | (refine wpl_storeI size3 rfl rfl rfl rfl hse.blk (by rw [iv_length, hse.tb.len]; omega) ?_; intro w9 hs9 hb9 hk9; rw [iv_set] at hs9; simp only [Act.put])
                    | (go_at_call 15; refine (wb_D q p rs cr A.length B.length D hse.hD _ ((hse.rr.kept (fun k h1 h2 => hk9 k (by omega))).rd2 hse.hD) hse.ro hat hA hB (by omega) hin).mono ?_; rintro e w8 ⟨g8, c8, E8, rfl, hb8, hlt8, hcl8, hln8, hok8⟩))
                  go_ret2
                  exact .inl ⟨by omega, g8, c8, E8, rfl, hse.bel.trans ((Below.trans (Below.drewN' _ _ _) (hb9 _ hg1)).trans (hb8.mono (by have := (hb9 0 (Nat.zero_le _)).size; exact Nat.le_trans hse.bel.size this))), hlt8, hcl8, hln8, by rw [eD]; exact hok8⟩
                · have hym' : (y : Int) < (B.length : Int) := by omega
                  go_wp2
                  go_quiet (fail)
                  go_wp2_with (first
                    | (refine wpl_storeI size3 rfl rfl rfl rfl hse.blk (by rw [iv_length, hse.tb.len]; omega) ?_; intro w9 hs9 hb9 hk9; rw [iv_set] at hs9; simp only [Act.put]))
                  have hse9 : SE q A.length B.length lim w gv w9 (.slice p D cr) rs cs (V.set (lim + 1 + 2 * i - D) x) D (i + 1) := SE.store hse hd hi (fr_cast HK.out hfr.out) (by have := HK.out; have := HXY.out; omega) hg1 (by rw [show lim + 1 + 2 * i - D = ((lim : Int) + 1 + kk).toNat by have := HK.out; omega]; exact hs9) hb9 hk9
                  go_roundw
                  case rel => exact ⟨i + 1, _, (by congr 1; have := HK.out; omega), by omega, hse9⟩
                  case measure => (simp [intOf]; have := HK.out; omega)
        · skip
          obtain rfl : i = D + 1 := by omega
          have hfar := hse.tb.far hse.far
          have hlen := cp_length (V := V) hse.tb.len hd
          have hbr : Rounds q (rs ++ [cp V lim D]) := by
            have hD := hse.hD
            subst hD
            exact hse.tb.rounds hd hse.ro
          have htb := hse.tb.next
          have hgl := hse.blk.lt
          have hrl : rs.length ≤ 1048576 := by rw [hse.hD]; omega
          have HLEN := Hid.mk' hlen
          have cells : ∀ t, t < (cp V lim D).length → wr.cell? ⟨gv, lim + 1 - D + t, none⟩ = some (.int .i64 ((cp V lim D).getD t 0)) := by
            intro t ht
            rw [hlen] at ht
            rw [cp_get t ht, hse.blk.i (by rw [hse.tb.len]; omega)]
          clear hlen
          go_wp2_with (first
            | (refine wpl_val rfl _ (run_sliceLH (lo := lim + 1 - D) (hi := lim + 1 + D + 1) rfl rfl rfl rfl (by omega) (by omega) (by omega) (by omega) (by omega)) ?_; simp only [Act.put, List.setIfInBounds_toArray, List.set_cons_zero, List.set_cons_succ])
            | (refine wpl_copy rfl _ rfl (cp V lim D) rfl (by rw [HLEN.out]; omega) (by rw [HLEN.out]; omega) (by rw [HLEN.out]; omega) cells ?_; intro g5 c5 w5 row5 hb5 hg5; simp only [Act.put, List.setIfInBounds_toArray, List.set_cons_zero, List.set_cons_succ])
            | (refine wpl_pushR (gv := gv) (rs := rs) (cs := cs) rfl rfl _ rfl _ _ rfl (cp V lim D) rfl (by rw [HLEN.out]; omega) rfl rfl (by exact hse.rr.kept fun k _ hk => hb5.block k hk) (by omega) row5 hrl (by have := hb5.size; omega) ?_; intro u6 v6 w6 cs6 rr6 hb6; simp only [Act.put, List.setIfInBounds_toArray, List.set_cons_zero, List.set_cons_succ]))
          go_roundw
          case rel => exact ⟨rs ++ [cp V lim D], cs6, V, (by rw [List.length_append, hse.hD]; go_num), (by rw [List.length_append, hse.hD]; simp; omega), ⟨(hse.blk.below hb5 hgl).below (hb6 _ (Nat.le_refl _)) (Nat.lt_succ_self _), (by rw [List.length_append, hse.hD]; exact htb), rr6, hbr, (by rw [List.length_append, hse.hD]; exact hfar), hse.bel.trans ((hb5.mono hse.bel.size).trans (hb6 _ (by omega))), (by simp)⟩⟩
          case measure => (simp [intOf]; omega)
    · skip
      have hfar := hse.far
      have hle := ED_le q A.length B.length
      have h3 := H3.out
      go_wp2
      go_ret2
      exact .inr ⟨by omega, rfl, hse.bel⟩
end Go.Proofs.Qxb6600689a
