import Derived.Test.Qxb6600689aPlain
namespace Go.Proofs.Qxb6600689a

section
variable (q : Nat → Nat → Bool)
/-- Round d is at (x, y): the furthest on its diagonal, which is one of round d's. -/
def At (d x y : Nat) : Prop := Fr q d ((x : Int) - y) x ∧ ∃ i : Nat, i ≤ d ∧ (x : Int) - y = 2 * i - d
/-- The step of round d came from (x0, y1) downward; then it slid to x. -/
def GoodD (d x y x0 : Nat) : Prop := ∃ y1 : Nat, (x0 : Int) - y1 = (x : Int) - y + 1 ∧ x0 ≤ x ∧ At q (d - 1) x0 y1 ∧ ∀ s t : Nat, x0 ≤ s → s < x → (s : Int) - t = (x : Int) - y → q s t = true
/-- The step of round d came from (x1, y0) to the right; then it slid to x. -/
def GoodR (d x y x1 : Nat) : Prop := ∃ y0 : Nat, (x1 : Int) - y0 = (x : Int) - y - 1 ∧ x1 + 1 ≤ x ∧ At q (d - 1) x1 y0 ∧ ∀ s t : Nat, x1 + 1 ≤ s → s < x → (s : Int) - t = (x : Int) - y → q s t = true

theorem back {r : Int → Int} {d x y : Nat} (h : Prev q r d) (hd : 0 < d) (ha : At q d x y) :
    ((x : Int) - y = -d ∧ ∃ x2 : Nat, r ((x : Int) - y + 1) = x2 ∧ GoodD q d x y x2) ∨
    ((x : Int) - y ≠ -d ∧ (x : Int) - y = d ∧ ∃ x1 : Nat, r ((x : Int) - y - 1) = x1 ∧ GoodR q d x y x1) ∨
    ((x : Int) - y ≠ -d ∧ (x : Int) - y ≠ d ∧ -d + 2 ≤ (x : Int) - y ∧ (x : Int) - y ≤ d - 2 ∧ ∃ x1 x2 : Nat, r ((x : Int) - y - 1) = x1 ∧ r ((x : Int) - y + 1) = x2 ∧ x1 < x2 ∧ GoodD q d x y x2) ∨
    ((x : Int) - y ≠ -d ∧ (x : Int) - y ≠ d ∧ -d + 2 ≤ (x : Int) - y ∧ (x : Int) - y ≤ d - 2 ∧ ∃ x1 x2 : Nat, r ((x : Int) - y - 1) = x1 ∧ r ((x : Int) - y + 1) = x2 ∧ x2 ≤ x1 ∧ GoodR q d x y x1) := by
  obtain ⟨f, i, hi, hk⟩ := ha
  obtain ⟨x0, es, hs⟩ := start_fs q h hi
  rw [← hk] at es hs
  have hle := hs.le q f
  have hfree := fun (s t : Nat) (h1 : x0 ≤ s) (h2 : s < x) (e : (s : Int) - t = (x : Int) - y) => hs.free q f h1 h2 e
  have hB : i < d → ∃ x2 : Nat, r ((x : Int) - y + 1) = x2 ∧ (start r d ((x : Int) - y) = r ((x : Int) - y + 1) → GoodD q d x y x2) := by
    intro hid
    obtain ⟨x2, e2, f2⟩ := h.2 i hid
    have ek : (2 * (i : Int) - d + 1) = (x : Int) - y + 1 := by omega
    rw [ek] at e2 f2
    refine ⟨x2, e2, fun e => ?_⟩
    obtain rfl : x0 = x2 := by omega
    obtain ⟨y2, g2, a2, b2⟩ := f2
    exact ⟨y2, g2, hle, ⟨⟨y2, rfl, a2, b2⟩, i, by omega, by omega⟩, hfree⟩
  have hA : 0 < i → ∃ x1 : Nat, r ((x : Int) - y - 1) = x1 ∧ (start r d ((x : Int) - y) = r ((x : Int) - y - 1) + 1 → GoodR q d x y x1) := by
    intro hi0
    obtain ⟨x1, e1, f1⟩ := h.2 (i - 1) (by omega)
    have ek : (2 * ((i - 1 : Nat) : Int) - d + 1) = (x : Int) - y - 1 := by omega
    rw [ek] at e1 f1
    refine ⟨x1, e1, fun e => ?_⟩
    obtain rfl : x0 = x1 + 1 := by omega
    obtain ⟨y1, g1, a1, b1⟩ := f1
    exact ⟨y1, g1, hle, ⟨⟨y1, rfl, a1, b1⟩, i - 1, by omega, by omega⟩, hfree⟩
  by_cases c1 : (x : Int) - y = -d
  · obtain ⟨x2, e2, g⟩ := hB (by omega)
    exact .inl ⟨c1, x2, e2, g (by simp [start, isDown, c1])⟩
  · by_cases c2 : (x : Int) - y = d
    · obtain ⟨x1, e1, g⟩ := hA (by omega)
      have nd : isDown r d ((x : Int) - y) = false := by rw [isDown, decide_eq_false c1, c2]; simp
      exact .inr (.inl ⟨c1, c2, x1, e1, g (by simp only [start, nd]; rfl)⟩)
    · obtain ⟨x1, e1, g1⟩ := hA (by omega)
      obtain ⟨x2, e2, g2⟩ := hB (by omega)
      by_cases c : x1 < x2
      · have nd : isDown r d ((x : Int) - y) = true := by
          rw [isDown, decide_eq_false c1, e1, e2]; simp [c2, c]
        exact .inr (.inr (.inl ⟨c1, c2, by omega, by omega, x1, x2, e1, e2, c, g2 (by simp only [start, nd]; rfl)⟩))
      · have nd : isDown r d ((x : Int) - y) = false := by
          rw [isDown, decide_eq_false c1, e1, e2]; simp; omega
        exact .inr (.inr (.inr ⟨c1, c2, by omega, by omega, x1, x2, e1, e2, by omega, g1 (by simp only [start, nd]; rfl)⟩))
end

/-! ### A list turned end for end, in place -/
def rv (es : List Int) (i : Nat) : List Int := (List.range es.length).map fun t => if t < i ∨ es.length - i ≤ t then es.getD (es.length - 1 - t) 0 else es.getD t 0
theorem rv_length (es : List Int) (i : Nat) : (rv es i).length = es.length := by simp [rv]
theorem rv_zero (es : List Int) : rv es 0 = es := by
  refine List.ext_getElem (by simp [rv]) fun t h1 h2 => ?_
  simp only [rv, List.getElem_map, List.getElem_range]
  rw [if_neg (by omega), List.getD_eq_getElem?_getD, List.getElem?_eq_getElem h2]
  rfl
theorem rv_get (es : List Int) (i t : Nat) (ht : t < es.length) : (rv es i).getD t 0 = if t < i ∨ es.length - i ≤ t then es.getD (es.length - 1 - t) 0 else es.getD t 0 := by
  rw [List.getD_eq_getElem?_getD, List.getElem?_eq_getElem (by rw [rv_length]; exact ht)]
  simp [rv]
theorem rv_swap (es : List Int) (i : Nat) (h : i < es.length - 1 - i) : ((rv es i).set i (es.getD (es.length - 1 - i) 0)).set (es.length - 1 - i) (es.getD i 0) = rv es (i + 1) := by
  refine List.ext_getElem (by simp [rv]) fun t h1 h2 => ?_
  rw [rv_length] at h2
  rw [List.getElem_set, List.getElem_set]
  simp only [rv, List.getElem_map, List.getElem_range]
  by_cases c1 : es.length - 1 - i = t
  · subst c1
    rw [if_pos rfl, if_pos (by omega)]
    congr 1; omega
  · rw [if_neg c1]
    by_cases c2 : i = t
    · subst c2
      rw [if_pos rfl, if_pos (by omega)]
    · rw [if_neg c2]
      by_cases c3 : t < i ∨ es.length - i ≤ t
      · rw [if_pos c3, if_pos (by omega)]
      · rw [if_neg c3, if_neg (by omega)]
theorem rv_all (es : List Int) (i : Nat) (h : es.length - 1 - i ≤ i) : rv es i = es.reverse := by
  refine List.ext_getElem (by simp [rv]) fun t h1 h2 => ?_
  rw [rv_length] at h1
  rw [List.getElem_reverse]
  simp only [rv, List.getElem_map, List.getElem_range]
  have e : ∀ k (hk : k < es.length), es.getD k 0 = es[k] := fun k hk => by rw [List.getD_eq_getElem?_getD, List.getElem?_eq_getElem hk]; rfl
  by_cases c : t < i ∨ es.length - i ≤ t
  · rw [if_pos c, e _ (by omega)]
  · rw [if_neg c, e _ h1]
    congr 1; omega
end Go.Proofs.Qxb6600689a
