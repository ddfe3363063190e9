import Derived.Test.Qxb6600689aFa
namespace Go.Proofs.Qxb6600689a
open Go.ChangeShapes Go.WideShapes Go.ChangeAt Go.RowKit
set_option linter.unusedVariables false

theorem LC_le (q : Nat → Nat → Bool) (x y : Nat) : 2 * LC q x y ≤ x + y := by have := ED_LC q x y; omega
theorem getD_set_eq {zs : List Int} {i : Nat} {z : Int} (h : i < zs.length) : (zs.set i z).getD i 0 = z := by simp [List.getD_eq_getElem?_getD, h]
theorem getD_set_ne {zs : List Int} {i j : Nat} {z : Int} (h : i ≠ j) : (zs.set i z).getD j 0 = zs.getD j 0 := by simp [List.getD_eq_getElem?_getD, List.getElem?_set_ne h]

theorem Below.drewN' (B : Nat) (w : World) (n : Nat) : Below B w (w.drewN n) := ⟨rfl, rfl, rfl, Nat.le_refl _, fun _ _ => rfl⟩
/-- The inner loop's state. -/
def Li (A B : List Int) (w : World) (i g5 g6 : Nat) (P : List Int) (wr : World) (j : Nat) (C : List Int) : Prop :=
  Blk wr g5 (iv P) ∧ Blk wr g6 (iv C) ∧ C.length = B.length + 1 ∧ (∀ t, t ≤ j → C.getD t 0 = (LC (qq A B) (i + 1) t : Int)) ∧ Below w.heap.size w wr
def Lo (A B : List Int) (w : World) (i g5 g6 : Nat) (P C : List Int) (wr : World) : Prop :=
  g5 ≠ g6 ∧ w.heap.size ≤ g5 ∧ w.heap.size ≤ g6 ∧ Blk wr g5 (iv P) ∧ Blk wr g6 (iv C) ∧ P.length = B.length + 1 ∧ C.length = B.length + 1 ∧ (∀ t, t ≤ B.length → P.getD t 0 = (LC (qq A B) i t : Int)) ∧ C.getD 0 0 = 0 ∧ Below w.heap.size w wr

set_option maxRecDepth 100000 in
set_option maxHeartbeats 2000000 in
theorem lcs_any (a b : Option Addr) (A B : List Int) (c d : Nat) (w : World) (ha : In w w.heap.size a A) (hb : In w w.heap.size b B) (hA : A.length ≤ 8192) (hB : B.length ≤ 8192) :
    Calls Try.prog 8 #[.slice a A.length c, .slice b B.length d] w fun e w' => e = .returned (.int .i64 (LC (qq A B) A.length B.length : Int)) ∧ Below w.heap.size w w' := by
  go_enter Try.func8, Try.ntmps8
  have t1 : True := trivial
  go_wp2_with (first
    | (have _t := t1; refine wpl_make3 rfl rfl (B.length + 1) _ rfl rfl (by omega) (by omega) ?_; intro g1 w1 hs1 hb1 hl1; clear t1 _t; simp only [Act.put, List.setIfInBounds_toArray, List.set_cons_zero, List.set_cons_succ])
    | (refine wpl_make3 rfl rfl (B.length + 1) _ rfl rfl (by omega) (by omega) ?_; intro g2 w2 hs2 hb2 hl2; simp only [Act.put, List.setIfInBounds_toArray, List.set_cons_zero, List.set_cons_succ]))
  have hstart : Lo A B w 0 g1 g2 (List.replicate (B.length + 1) 0) (List.replicate (B.length + 1) 0) w2 := by
    have := hb1.size
    refine ⟨by have := hs1.lt; omega, hl1, by omega, hs1.below hb2 hs1.lt, hs2, by simp, by simp, fun t ht => ?_, by simp [List.getD_eq_getElem?_getD], hb1.trans (hb2.mono hb1.size)⟩
    rw [LC_zl]
    simp [List.getD_eq_getElem?_getD, show t < B.length + 1 by omega]
  clear hs1 hb1 hs2 hb2 hl1 hl2
  go_loopw [5, 6, 7] (fun p q i wr => ∃ (k g5 g6 : Nat) (P C : List Int), k ≤ A.length ∧ p = .slice (some ⟨g5, 0, none⟩) (B.length + 1) (B.length + 1) ∧ q = .slice (some ⟨g6, 0, none⟩) (B.length + 1) (B.length + 1) ∧ i = .int .i64 ((k : Int) + 1) ∧ Lo A B w k g5 g6 P C wr) (fun _ _ i _ => (A.length + 1 - intOf i).toNat)
  case atStart => exact ⟨0, g1, g2, _, _, by omega, rfl, rfl, rfl, hstart⟩
  case round =>
    obtain ⟨k, g5, g6, P, C, hk, rfl, rfl, rfl, h56, hg5, hg6, hP, hC, hPl, hCl, hPv, hC0, hbe⟩ := hrel
    clear hstart
    by_cases hlt : k < A.length
    · obtain ⟨w4, h⟩ : ∃ w4, w4 = wr := ⟨_, rfl⟩
      subst h
      have hst : Li A B w k g5 g6 P w4 0 C := ⟨hP, hC, hCl, fun t ht => (by
        obtain rfl : t = 0 := by omega
        rw [hC0, LC_zr]; rfl), hbe⟩
      clear hP hC hCl hC0 hbe
      obtain ⟨ga, hpa, hga, hac⟩ := ha k hlt
      obtain ⟨x, hx⟩ : ∃ x, A.getD k 0 = x := ⟨_, rfl⟩
      rw [hx] at hac
      go_wp2
      go_loopw [8] (fun j wr => ∃ (t : Nat) (C : List Int), t ≤ B.length ∧ j = .int .i64 ((t : Int) + 1) ∧ Li A B w k g5 g6 P wr t C) (fun j _ => (B.length + 1 - intOf j).toNat)
      case atStart => exact ⟨0, C, by omega, rfl, hst⟩
      case round =>
        obtain ⟨t, C, ht, rfl, hP, hC, hCl, hCv, hbe⟩ := hrel
        clear hst
        by_cases htl : t < B.length
        · obtain ⟨gb, hpb, hgb, hbc⟩ := hb t htl
          obtain ⟨y, hy⟩ : ∃ y, B.getD t 0 = y := ⟨_, rfl⟩
          rw [hy] at hbc
          have c1 := (hbe.cell (p := ⟨ga, k, none⟩) hga).trans hac
          have c2 := (hbe.cell (p := ⟨gb, t, none⟩) hgb).trans hbc
          have c3 := hP.i (i := t) (by omega)
          have c4 := hP.i (i := t + 1) (by omega)
          have c5 := hC.i (i := t) (by omega)
          rw [hPv _ (by omega)] at c3 c4
          rw [hCv _ (by omega)] at c5
          have b1 := LC_le (qq A B) k t
          have hq : qq A B k t = decide (x = y) := by rw [qq, hx, hy]; simp [hlt, htl]
          obtain ⟨p3, e3⟩ : ∃ p3, LC (qq A B) k t = p3 := ⟨_, rfl⟩
          obtain ⟨p4, e4⟩ : ∃ p4, LC (qq A B) k (t + 1) = p4 := ⟨_, rfl⟩
          obtain ⟨p5, e5⟩ : ∃ p5, LC (qq A B) (k + 1) t = p5 := ⟨_, rfl⟩
          rw [e3] at c3 b1
          rw [e4] at c4
          rw [e5] at c5
          have HC : Hid (∀ (wz : World) (C' : List Int) (z : Int), C' = C.set (t + 1) z → z = (LC (qq A B) (k + 1) (t + 1) : Int) → Blk wz g5 (iv P) → Blk wz g6 (iv C') → Below w.heap.size w wz → Li A B w k g5 g6 P wz (t + 1) C') := by
            rintro wz C' z rfl hz h1 h2 h3
            refine ⟨h1, h2, by simpa using hCl, fun s hs => ?_, h3⟩
            by_cases hs' : s = t + 1
            · subst hs'
              rw [getD_set_eq (by omega), hz]
            · rw [getD_set_ne (by omega)]
              exact hCv s (by omega)
          have hC1 : t + 1 < (iv C).length := by rw [iv_length]; omega
          clear hCv hPv hac hbc hx hy
          subst hpa hpb
          by_cases hxy : x = y
          · have hL := LC_eq (qq A B) (x := k) (y := t) (by rw [hq]; simp [hxy])
            rw [e3] at hL
            clear hq e3 e4 e5 c4 c5
            subst hxy
            go_wp2
            go_quiet (fail)
            go_wp2_with (first
              | (refine wpl_storeI size3 rfl rfl rfl rfl (g := g6) (k := t + 1) (l := iv C) hC hC1 ?_; intro w5 hs5 hb5 hk5; simp only [Act.put]))
            go_roundw
            case rel => exact ⟨t + 1, C.set (t + 1) ((p3 : Int) + 1), by omega, by go_num, HC.out w5 _ _ rfl (by rw [hL]; omega) (hP.of_block (hk5 g5 h56)) (by rw [← iv_set]; exact hs5) (hbe.trans (Below.trans (Below.drewN' _ _ _) (hb5 _ hg6)))⟩
            case measure => simp [intOf]; omega
          · have hL := LC_ne (qq A B) (x := k) (y := t) (by rw [hq]; simp [hxy])
            rw [e4, e5] at hL
            clear hq e3 e4 e5 c3
            have hxb : (x == y) = false := by simpa using hxy
            by_cases h45 : p5 ≤ p4
            · have h45' : (p5 : Int) ≤ (p4 : Int) := by omega
              go_wp2
              go_quiet (fail)
              go_wp2
              go_quiet (fail)
              go_wp2_with (first
                | (refine wpl_storeI size3 rfl rfl rfl rfl (g := g6) (k := t + 1) (l := iv C) hC hC1 ?_; intro w5 hs5 hb5 hk5; simp only [Act.put]))
              go_roundw
              case rel => exact ⟨t + 1, C.set (t + 1) (p4 : Int), by omega, by go_num, HC.out w5 _ _ rfl (by rw [hL]; omega) (hP.of_block (hk5 g5 h56)) (by rw [← iv_set]; exact hs5) (hbe.trans (Below.trans (Below.drewN' _ _ _) (hb5 _ hg6)))⟩
              case measure => simp [intOf]; omega
            · have h45' : (p4 : Int) < (p5 : Int) := by omega
              go_wp2
              go_quiet (fail)
              go_wp2
              go_quiet (fail)
              go_wp2_with (first
                | (refine wpl_storeI size3 rfl rfl rfl rfl (g := g6) (k := t + 1) (l := iv C) hC hC1 ?_; intro w5 hs5 hb5 hk5; simp only [Act.put]))
              go_roundw
              case rel => exact ⟨t + 1, C.set (t + 1) (p5 : Int), by omega, by go_num, HC.out w5 _ _ rfl (by rw [hL]; omega) (hP.of_block (hk5 g5 h56)) (by rw [← iv_set]; exact hs5) (hbe.trans (Below.trans (Below.drewN' _ _ _) (hb5 _ hg6)))⟩
              case measure => simp [intOf]; omega
        · have hke : t = B.length := by omega
          subst hke
          go_wp2
          go_roundw
          case rel => exact ⟨k + 1, g6, g5, C, P, by omega, rfl, rfl, by go_num, fun h => h56 h.symm, hg6, hg5, hC, hP, hCl, hPl, hCv, by rw [hPv 0 (by omega), LC_zr]; rfl, hbe⟩
          case measure => simp [intOf]; omega
    · have hke : k = A.length := by omega
      subst hke
      have hcell := hP.i (i := B.length) (by omega)
      rw [hPv _ (by omega)] at hcell
      go_wp2
      go_ret
      exact ⟨rfl, hbe⟩
end Go.Proofs.Qxb6600689a
