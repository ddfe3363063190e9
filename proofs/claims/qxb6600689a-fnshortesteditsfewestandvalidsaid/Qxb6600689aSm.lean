import Derived.Test.Qxb6600689aWm
namespace Go.Proofs.Qxb6600689a
open Go.ChangeShapes Go.WideShapes Go.ChangeAt Go.RowKit
set_option linter.unusedVariables false

/-! ### Plain: the search's table -/
/-- What stands at diagonal k in v (offset off). -/
def rV (V : List Int) (off : Nat) (k : Int) : Int := V.getD ((off : Int) + k).toNat 0
theorem ED_bx (q : Nat → Nat → Bool) {n m : Nat} (hq : ∀ x y, q x y = true → x < n ∧ y < m) {x y d : Nat} (h : ED q x y ≤ d) : x ≤ n + d := by
  by_cases c : x ≤ n
  · omega
  · have : ∀ s, ED q (n + s) y = ED q n y + s := by
      intro s
      induction s with
      | zero => rfl
      | succ s ih => rw [← Nat.add_assoc, ED_outx q hq (by omega), ih]; omega
    have := this (x - n)
    rw [show n + (x - n) = x by omega] at this
    omega
theorem ED_by (q : Nat → Nat → Bool) {n m : Nat} (hq : ∀ x y, q x y = true → x < n ∧ y < m) {x y d : Nat} (h : ED q x y ≤ d) : y ≤ m + d := by
  by_cases c : y ≤ m
  · omega
  · have : ∀ s, ED q x (m + s) = ED q x m + s := by
      intro s
      induction s with
      | zero => rfl
      | succ s ih => rw [← Nat.add_assoc, ED_outy q hq (by omega), ih]; omega
    have := this (y - m)
    rw [show m + (y - m) = y by omega] at this
    omega
/-- Round d has done i diagonals. -/
structure Tb (q : Nat → Nat → Bool) (n m lim d i : Nat) (V : List Int) : Prop where
  len : V.length = 2 * lim + 3
  prev : Prev q (rV V (lim + 1)) d
  done : ∀ j : Nat, j < i → ∃ x : Nat, rV V (lim + 1) (2 * j - d) = x ∧ Fr q d (2 * j - d) x ∧ ¬ (n ≤ x ∧ (m : Int) ≤ x - (2 * j - d))
theorem Tb.start (q : Nat → Nat → Bool) (n m lim : Nat) : Tb q n m lim 0 0 (List.replicate (2 * lim + 3) 0) := by
  refine ⟨by simp, ⟨fun _ => ?_, fun j hj => by omega⟩, fun j hj => by omega⟩
  rw [rV, List.getD_eq_getElem?_getD, List.getElem?_replicate]
  split <;> rfl
theorem Tb.set {q : Nat → Nat → Bool} {n m lim d i : Nat} {V : List Int} (h : Tb q n m lim d i V) (hd : d ≤ lim) (hi : i ≤ d) {x : Nat} (f : Fr q d (2 * i - d) x) (hn : ¬ (n ≤ x ∧ (m : Int) ≤ x - (2 * i - d))) :
    Tb q n m lim d (i + 1) (V.set (lim + 1 + 2 * i - d) x) := by
  obtain ⟨hl, ⟨p0, p1⟩, hd'⟩ := h
  have ne : ∀ k : Int, -(d : Int) - 1 ≤ k → k ≤ d + 1 → k ≠ 2 * i - d → rV (V.set (lim + 1 + 2 * i - d) x) (lim + 1) k = rV V (lim + 1) k := by
    intro k h1 h2 h3
    unfold rV
    rw [List.getD_eq_getElem?_getD, List.getD_eq_getElem?_getD, List.getElem?_set_ne (by omega)]
  refine ⟨by simp [hl], ⟨fun h => ?_, fun j hj => ?_⟩, fun j hj => ?_⟩
  · rw [ne 1 (by omega) (by omega) (by omega)]
    exact p0 h
  · rw [ne _ (by omega) (by omega) (by omega)]
    exact p1 j hj
  · by_cases c : j = i
    · subst c
      refine ⟨x, ?_, f, hn⟩
      unfold rV
      rw [show (((lim + 1 : Nat) : Int) + (2 * (j : Int) - d)).toNat = lim + 1 + 2 * j - d by omega, List.getD_eq_getElem?_getD, List.getElem?_set_self (by omega)]
      rfl
    · rw [ne _ (by omega) (by omega) (by omega)]
      exact hd' j (by omega)
/-- The round's copy of v. -/
def cp (V : List Int) (lim d : Nat) : List Int := (V.drop (lim + 1 - d)).take (2 * d + 1)
theorem cp_length {V : List Int} {lim d : Nat} (h : V.length = 2 * lim + 3) (hd : d ≤ lim) : (cp V lim d).length = 2 * d + 1 := by simp [cp]; omega
theorem cp_get {V : List Int} {lim d : Nat} (t : Nat) (ht : t < 2 * d + 1) : (cp V lim d).getD t 0 = V.getD (lim + 1 - d + t) 0 := by
  simp [cp, List.getD_eq_getElem?_getD, ht]
theorem Tb.next {q : Nat → Nat → Bool} {n m lim d : Nat} {V : List Int} (h : Tb q n m lim d (d + 1) V) : Tb q n m lim (d + 1) 0 V := by
  refine ⟨h.len, ⟨fun h => by omega, fun j hj => ?_⟩, fun j hj => by omega⟩
  obtain ⟨x, e, f, _⟩ := h.done j (by omega)
  refine ⟨x, ?_, ?_⟩
  · rw [show (2 * (j : Int) - ((d + 1 : Nat) : Int) + 1) = 2 * j - d by omega]; exact e
  · rw [show (2 * (j : Int) - ((d + 1 : Nat) : Int) + 1) = 2 * j - d by omega]; exact f
theorem Tb.rounds {q : Nat → Nat → Bool} {n m lim : Nat} {V : List Int} {rs : List (List Int)} (h : Tb q n m lim rs.length (rs.length + 1) V) (hd : rs.length ≤ lim) (hr : Rounds q rs) : Rounds q (rs ++ [cp V lim rs.length]) := by
  intro r hr'
  rw [List.length_append, List.length_singleton] at hr'
  by_cases c : r < rs.length
  · have e : (rs ++ [cp V lim rs.length]).getD r [] = rs.getD r [] := by
      rw [List.getD_eq_getElem?_getD, List.getElem?_append_left c, ← List.getD_eq_getElem?_getD]
    rw [e]
    exact hr r c
  · obtain rfl : r = rs.length := by omega
    have e : (rs ++ [cp V lim rs.length]).getD rs.length [] = cp V lim rs.length := by
      rw [List.getD_eq_getElem?_getD, List.getElem?_append_right (Nat.le_refl _)]; simp
    rw [e]
    refine ⟨cp_length h.len hd, fun j hj => ?_⟩
    obtain ⟨x, ex, f, _⟩ := h.done j (by omega)
    refine ⟨x, ?_, f⟩
    rw [cp_get _ (by omega), ← ex, rV]
    congr 1; omega
theorem Tb.far {q : Nat → Nat → Bool} {n m lim d : Nat} {V : List Int} (h : Tb q n m lim d (d + 1) V) (hd : d ≤ ED q n m) : d < ED q n m :=
  not_yet q hd fun j hj => by
    obtain ⟨x, _, f, hn⟩ := h.done j (by omega)
    exact ⟨x, f, hn⟩

/-! ### Memory: the rounds -/
def Row3 (w : World) (g : Nat) (z : List Int) : Prop := (∃ cur, w.heap[g]? = some (.cells cur 3 (0, 0))) ∧ ∀ i, i < z.length → w.cell? ⟨g, i, none⟩ = some (.int .i64 (z.getD i 0))
theorem Row3.of_block {w w' : World} {g : Nat} {z : List Int} (h : Row3 w g z) (e : w'.heap[g]? = w.heap[g]?) : Row3 w' g z := by
  obtain ⟨⟨cur, h1⟩, h2⟩ := h
  exact ⟨⟨cur, e.trans h1⟩, fun i hi => (World.cell?_of_block (a := ⟨g, i, none⟩) e).trans (h2 i hi)⟩
theorem Row3.lt {w : World} {g : Nat} {z : List Int} (h : Row3 w g z) : g < w.heap.size := by
  obtain ⟨⟨cur, h1⟩, _⟩ := h
  by_cases hg : g < w.heap.size
  · exact hg
  · simp [Array.getElem?_eq_none (Nat.le_of_not_lt hg)] at h1
structure RR (w : World) (gv : Nat) (v : Value) (rs : List (List Int)) (cs : List Value) : Prop where
  own : w.ownsRow (gv + 1) 22 1 v rs.length cs
  rows : ∀ r, r < rs.length → ∃ g c, cs[r]? = some (.slice (some ⟨g, 0, none⟩) (rs.getD r []).length c) ∧ gv < g ∧ Row3 w g (rs.getD r [])
theorem ownsRow_kept {w w' : World} {base : Nat} {e : TypeId} {size : Nat} {v : Value} {n : Nat} {xs : List Value} (h : w.ownsRow base e size v n xs) (hk : ∀ k, base ≤ k → k < w.heap.size → w'.heap[k]? = w.heap[k]?) : w'.ownsRow base e size v n xs := by
  obtain ⟨h0, h⟩ := h
  refine ⟨h0, ?_⟩
  rcases h with h | ⟨g, cap, cur, h1, h2, h3, h4⟩
  · exact .inl h
  · refine .inr ⟨g, cap, cur, h1, h2, ?_, h4⟩
    rw [hk g h2 ?_, h3]
    rcases Nat.lt_or_ge g w.heap.size with c | c
    · exact c
    · rw [Array.getElem?_eq_none c] at h3; cases h3
theorem RR.kept {w w' : World} {gv : Nat} {v : Value} {rs : List (List Int)} {cs : List Value} (h : RR w gv v rs cs) (hk : ∀ k, gv < k → k < w.heap.size → w'.heap[k]? = w.heap[k]?) : RR w' gv v rs cs := by
  refine ⟨ownsRow_kept h.own fun k h1 h2 => hk k (by omega) h2, fun r hr => ?_⟩
  obtain ⟨g, c, e, hg, h3⟩ := h.rows r hr
  exact ⟨g, c, e, hg, h3.of_block (hk g hg h3.lt)⟩
theorem RR.nil (w : World) (gv : Nat) : RR w gv (.slice none 0 0) [] [] := ⟨World.ownsRow_nil _ _ _ _, fun r hr => by simp at hr⟩
theorem RR.rd {w : World} {gv : Nat} {v : Value} {rs : List (List Int)} {cs : List Value} (h : RR w gv v rs cs) : ∃ p c, v = .slice p rs.length c ∧ Rd w w.heap.size p rs := by
  obtain ⟨h0, h1⟩ := h.own
  rcases h1 with ⟨h1, hn⟩ | ⟨g, cap, cur, h1, h2, h3, h4, h5, h6, h7⟩
  · refine ⟨none, 0, by rw [h1, hn], fun r hr => by omega⟩
  · refine ⟨_, cap, h1, fun r hr => ?_⟩
    have hg : g < w.heap.size := by
      rcases Nat.lt_or_ge g w.heap.size with c | c
      · exact c
      · rw [Array.getElem?_eq_none c] at h3; cases h3
    obtain ⟨g2, c2, e2, hg2, r2⟩ := h.rows r hr
    refine ⟨g, g2, c2, rfl, hg, r2.lt, ?_, r2.2⟩
    have := World.ownsRow.cellAt (h1 ▸ h.own) r (by omega)
    rw [this, e2]
end Go.Proofs.Qxb6600689a
