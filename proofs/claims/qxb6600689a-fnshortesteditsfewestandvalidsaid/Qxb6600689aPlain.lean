namespace Go.Proofs.Qxb6600689a

/-! ### No Go in sight: the least number of edits, by an arbitrary test q on places -/
section
variable (q : Nat → Nat → Bool)

/-- One row of the table of fewest edits, off the row before. -/
def EDs (x : Nat) (p : Nat → Nat) : Nat → Nat
  | 0 => x + 1
  | y + 1 => if q x y then p y else 1 + min (p (y + 1)) (EDs x p y)
/-- Fewest edits from (0,0) to (x,y): q x y: the step from (x,y) to (x+1,y+1) is free. -/
def ED : Nat → Nat → Nat
  | 0 => fun y => y
  | x + 1 => EDs q x (ED x)
/-- One row of the textbook table, off the row before. -/
def LCs (x : Nat) (p : Nat → Nat) : Nat → Nat
  | 0 => 0
  | y + 1 => if q x y then p y + 1 else max (p (y + 1)) (LCs x p y)
/-- The textbook table. -/
def LC : Nat → Nat → Nat
  | 0 => fun _ => 0
  | x + 1 => LCs q x (LC x)

theorem ED_zl (y : Nat) : ED q 0 y = y := rfl
theorem ED_zr (x : Nat) : ED q x 0 = x := by cases x <;> rfl
theorem ED_eq {x y : Nat} (h : q x y = true) : ED q (x + 1) (y + 1) = ED q x y := by
  show EDs q x (ED q x) (y + 1) = _
  rw [EDs, if_pos h]
theorem ED_ne {x y : Nat} (h : q x y = false) : ED q (x + 1) (y + 1) = 1 + min (ED q x (y + 1)) (ED q (x + 1) y) := by
  show EDs q x (ED q x) (y + 1) = _
  rw [EDs, if_neg (by rw [h]; exact Bool.false_ne_true)]
  rfl
theorem LC_zl (y : Nat) : LC q 0 y = 0 := rfl
theorem LC_zr (x : Nat) : LC q x 0 = 0 := by cases x <;> rfl
theorem LC_eq {x y : Nat} (h : q x y = true) : LC q (x + 1) (y + 1) = LC q x y + 1 := by
  show LCs q x (LC q x) (y + 1) = _
  rw [LCs, if_pos h]
theorem LC_ne {x y : Nat} (h : q x y = false) : LC q (x + 1) (y + 1) = max (LC q x (y + 1)) (LC q (x + 1) y) := by
  show LCs q x (LC q x) (y + 1) = _
  rw [LCs, if_neg (by rw [h]; exact Bool.false_ne_true)]
  rfl

theorem ED_LC (x y : Nat) : ED q x y + 2 * LC q x y = x + y := by
  induction x generalizing y with
  | zero => simp [ED_zl, LC_zl]
  | succ x ihx =>
    induction y with
    | zero => simp [ED_zr, LC_zr]
    | succ y ihy =>
      have h0 := ihx y
      have h1 := ihx (y + 1)
      cases h : q x y
      · rw [ED_ne q h, LC_ne q h]
        omega
      · rw [ED_eq q h, LC_eq q h]
        omega

theorem ED_step (x : Nat) : ∀ y, (ED q (x + 1) y ≤ ED q x y + 1 ∧ ED q x y ≤ ED q (x + 1) y + 1) ∧ (ED q x (y + 1) ≤ ED q x y + 1 ∧ ED q x y ≤ ED q x (y + 1) + 1) := by
  have key : ∀ x, (∀ y, ED q x (y + 1) ≤ ED q x y + 1 ∧ ED q x y ≤ ED q x (y + 1) + 1) → ∀ y, ED q (x + 1) y ≤ ED q x y + 1 ∧ ED q x y ≤ ED q (x + 1) y + 1 := by
    intro x hB y
    induction y with
    | zero => simp [ED_zr]; omega
    | succ y ih =>
      have b := hB y
      cases h : q x y
      · rw [ED_ne q h]; omega
      · rw [ED_eq q h]; omega
  induction x with
  | zero =>
    have hB : ∀ y, ED q 0 (y + 1) ≤ ED q 0 y + 1 ∧ ED q 0 y ≤ ED q 0 (y + 1) + 1 := by intro y; simp only [ED_zl]; omega
    exact fun y => ⟨key 0 hB y, hB y⟩
  | succ x ih =>
    have hB : ∀ y, ED q (x + 1) (y + 1) ≤ ED q (x + 1) y + 1 ∧ ED q (x + 1) y ≤ ED q (x + 1) (y + 1) + 1 := by
      intro y
      have a := ih y
      cases h : q x y
      · rw [ED_ne q h]; omega
      · rw [ED_eq q h]; omega
    exact fun y => ⟨key (x + 1) hB y, hB y⟩

theorem ED_diag (x y : Nat) : ED q x y ≤ ED q (x + 1) (y + 1) := by
  have a := ED_step q x y
  cases h : q x y
  · rw [ED_ne q h]; omega
  · rw [ED_eq q h]; omega
theorem ED_mono {x y : Nat} : ∀ t, ED q x y ≤ ED q (x + t) (y + t)
  | 0 => Nat.le_refl _
  | t + 1 => Nat.le_trans (ED_mono t) (ED_diag q _ _)
theorem ED_mono' {x y x' y' : Nat} (h : x ≤ x') (e : (x : Int) - y = (x' : Int) - y') : ED q x y ≤ ED q x' y' := by
  have := ED_mono q (x := x) (y := y) (x' - x)
  rwa [show x + (x' - x) = x' by omega, show y + (x' - x) = y' by omega] at this
theorem ED_le (x y : Nat) : ED q x y ≤ x + y := by have := ED_LC q x y; omega
theorem ED_par (x y : Nat) : ED q x y % 2 = (x + y) % 2 := by have := ED_LC q x y; omega
theorem ED_ge (x y : Nat) : (x : Int) - y ≤ ED q x y ∧ (y : Int) - x ≤ ED q x y := by
  induction x with
  | zero => simp [ED_zl]
  | succ x ih =>
    have a := ED_step q x y
    constructor
    · have := ED_mono' q (x := x + 1 - y) (y := 0) (x' := x + 1) (y' := y)
      by_cases h : y ≤ x + 1
      · have := this (by omega) (by omega)
        rw [ED_zr] at this
        omega
      · omega
    · have := ED_mono' q (x := 0) (y := y - (x + 1)) (x' := x + 1) (y' := y)
      by_cases h : x + 1 ≤ y
      · have := this (by omega) (by omega)
        rw [ED_zl] at this
        omega
      · omega

/-! ### Outside of the grid nothing is free -/
theorem ED_outx {n m : Nat} (hq : ∀ x y, q x y = true → x < n ∧ y < m) {x : Nat} (h : n ≤ x) (y : Nat) : ED q (x + 1) y = ED q x y + 1 := by
  induction y with
  | zero => simp [ED_zr]
  | succ y ih =>
    have e : q x y = false := by
      cases e : q x y
      · rfl
      · have := hq x y e; omega
    have a := (ED_step q x y).2
    rw [ED_ne q e]
    omega
theorem ED_outy {n m : Nat} (hq : ∀ x y, q x y = true → x < n ∧ y < m) {y : Nat} (h : m ≤ y) (x : Nat) : ED q x (y + 1) = ED q x y + 1 := by
  induction x with
  | zero => simp [ED_zl]
  | succ x ih =>
    have e : q x y = false := by
      cases e : q x y
      · rfl
      · have := hq x y e; omega
    have a := (ED_step q x y).1
    rw [ED_ne q e]
    omega
theorem ED_out {n m : Nat} (hq : ∀ x y, q x y = true → x < n ∧ y < m) (s t : Nat) : ED q (n + s) (m + t) = ED q n m + s + t := by
  have hx : ∀ s, ED q (n + s) m = ED q n m + s := by
    intro s
    induction s with
    | zero => rfl
    | succ s ih => rw [← Nat.add_assoc, ED_outx q hq (by omega), ih]; omega
  induction t with
  | zero => exact hx s
  | succ t ih => rw [← Nat.add_assoc, ED_outy q hq (by omega), ih]; omega

/-! ### Furthest reaching -/
/-- On diagonal k, x is the furthest that d edits reach. -/
def Fr (d : Nat) (k : Int) (x : Nat) : Prop := ∃ y : Nat, (x : Int) - y = k ∧ ED q x y ≤ d ∧ d < ED q (x + 1) (y + 1)
/-- A place from which sliding along k ends at the furthest. -/
def Fs (d : Nat) (k : Int) (x0 : Nat) : Prop := ∃ y0 : Nat, (x0 : Int) - y0 = k ∧ ED q x0 y0 ≤ d ∧ ∀ x y : Nat, x0 ≤ x → (x : Int) - y = k → d ≤ ED q x (y + 1) ∧ d ≤ ED q (x + 1) y
theorem Fs.fr {d : Nat} {k : Int} {x0 : Nat} (h : Fs q d k x0) {x y : Nat} (hx : x0 ≤ x) (e : (x : Int) - y = k) (hd : ED q x y ≤ d) (hn : q x y = false) : Fr q d k x := by
  obtain ⟨y0, e0, h0, hb⟩ := h
  have b := hb x y hx e
  refine ⟨y, e, hd, ?_⟩
  rw [ED_ne q hn]
  omega
theorem Fs.le {d : Nat} {k : Int} {x0 x : Nat} (h : Fs q d k x0) (f : Fr q d k x) : x0 ≤ x := by
  obtain ⟨y0, e0, h0, hb⟩ := h
  obtain ⟨y, e, h1, h2⟩ := f
  by_cases c : x0 ≤ x
  · exact c
  · have := ED_mono' q (x := x + 1) (y := y + 1) (x' := x0) (y' := y0) (by omega) (by omega)
    omega
theorem Fs.free {d : Nat} {k : Int} {x0 x : Nat} (h : Fs q d k x0) (f : Fr q d k x) {s t : Nat} (hs : x0 ≤ s) (hx : s < x) (e : (s : Int) - t = k) : q s t = true := by
  obtain ⟨y0, e0, h0, hb⟩ := h
  obtain ⟨y, e1, h1, h2⟩ := f
  cases c : q s t
  · have b := hb s t hs e
    have := ED_mono' q (x := s + 1) (y := t + 1) (x' := x) (y' := y) (by omega) (by omega)
    rw [ED_ne q c] at this
    omega
  · rfl

/-- What round d reads: 'r k' is what stands at diagonal k. -/
def Prev (r : Int → Int) (d : Nat) : Prop := (d = 0 → r 1 = 0) ∧ ∀ j : Nat, j < d → ∃ x : Nat, r (2 * j - d + 1) = x ∧ Fr q (d - 1) (2 * j - d + 1) x
def isDown (r : Int → Int) (d k : Int) : Bool := decide (k = -d) || (decide (k ≠ d) && decide (r (k - 1) < r (k + 1)))
def start (r : Int → Int) (d k : Int) : Int := if isDown r d k then r (k + 1) else r (k - 1) + 1

theorem start_fs {r : Int → Int} {d i : Nat} (h : Prev q r d) (hi : i ≤ d) : ∃ x0 : Nat, start r d (2 * i - d) = x0 ∧ Fs q d (2 * i - d) x0 := by
  obtain ⟨h0, h⟩ := h
  by_cases hd : d = 0
  · subst hd
    obtain rfl : i = 0 := by omega
    refine ⟨0, ?_, 0, by simp, by simp [ED_zl], fun x y hx e => ⟨by omega, by omega⟩⟩
    simp [start, isDown, h0]
    -- the diagonal below
  · have hA : ∀ x1 : Nat, Fr q (d - 1) (2 * ((i - 1 : Nat) : Int) - d + 1) x1 → 1 ≤ i → ∀ x y : Nat, x1 + 1 ≤ x → (x : Int) - y = 2 * i - d → d ≤ ED q x (y + 1) := by
      rintro x1 ⟨y1, e1, a1, b1⟩ hi1 x y hx e
      have := ED_mono' q (x := x1 + 1) (y := y1 + 1) (x' := x) (y' := y + 1) hx (by omega)
      omega
    have hB : ∀ x2 : Nat, Fr q (d - 1) (2 * (i : Int) - d + 1) x2 → ∀ x y : Nat, x2 ≤ x → (x : Int) - y = 2 * i - d → d ≤ ED q (x + 1) y := by
      rintro x2 ⟨y2, e2, a2, b2⟩ x y hx e
      have := ED_mono' q (x := x2 + 1) (y := y2 + 1) (x' := x + 1) (y' := y) (by omega) (by omega)
      omega
    by_cases hi0 : i = 0
    · obtain ⟨x2, e2, f2⟩ := h i (by omega)
      refine ⟨x2, ?_, ?_⟩
      · rw [start, if_pos]
        · exact e2
        · simp [isDown]; omega
      · have hb := hB x2 f2
        obtain ⟨y2, g2, a2, b2⟩ := f2
        refine ⟨y2 + 1, by omega, ?_, fun x y hx e => ⟨?_, hb x y hx e⟩⟩
        · have := (ED_step q x2 y2).2; omega
        · have := (ED_ge q x (y + 1)).2; omega
    · obtain ⟨x1, e1, f1⟩ := h (i - 1) (by omega)
      have ha := hA x1 f1 (by omega)
      have er : r (2 * (i : Int) - d - 1) = x1 := by rw [← e1]; congr 1; omega
      by_cases hid : i = d
      · refine ⟨x1 + 1, ?_, ?_⟩
        · rw [start, if_neg]
          · rw [er]; omega
          · simp [isDown]; omega
        · obtain ⟨y1, g1, a1, b1⟩ := f1
          refine ⟨y1, by omega, ?_, fun x y hx e => ⟨ha x y hx e, ?_⟩⟩
          · have := (ED_step q x1 y1).1; omega
          · have := (ED_ge q (x + 1) y).1; omega
      · obtain ⟨x2, e2, f2⟩ := h i (by omega)
        have hb := hB x2 f2
        by_cases c : x1 < x2
        · refine ⟨x2, ?_, ?_⟩
          · rw [start, if_pos]
            · exact e2
            · simp [isDown, er, e2]; omega
          · obtain ⟨y2, g2, a2, b2⟩ := f2
            refine ⟨y2 + 1, by omega, ?_, fun x y hx e => ⟨ha x y (by omega) e, hb x y hx e⟩⟩
            have := (ED_step q x2 y2).2; omega
        · refine ⟨x1 + 1, ?_, ?_⟩
          · rw [start, if_neg]
            · rw [er]; omega
            · simp [isDown, er, e2]; omega
          · obtain ⟨y1, g1, a1, b1⟩ := f1
            refine ⟨y1, by omega, ?_, fun x y hx e => ⟨ha x y hx e, hb x y (by omega) e⟩⟩
            have := (ED_step q x1 y1).1; omega

/-! ### The end -/
/-- A place beyond both ends that d edits reach is the end, if fewer do not reach the end. -/
theorem at_end {n m : Nat} (hq : ∀ x y, q x y = true → x < n ∧ y < m) {d x y : Nat} (h : ED q x y ≤ d) (hx : n ≤ x) (hy : m ≤ y) (hd : d ≤ ED q n m) : x = n ∧ y = m ∧ ED q n m = d := by
  have := ED_out q hq (x - n) (y - m)
  rw [show n + (x - n) = x by omega, show m + (y - m) = y by omega] at this
  omega
/-- If no diagonal of round d came to the end, the end is further. -/
theorem not_yet {n m : Nat} {d : Nat} (hd : d ≤ ED q n m) (h : ∀ j : Nat, j ≤ d → ∃ x : Nat, Fr q d (2 * j - d) x ∧ ¬ (n ≤ x ∧ (m : Int) ≤ x - (2 * j - d))) : d < ED q n m := by
  by_cases c : ED q n m ≤ d
  · exfalso
    have hg := ED_ge q n m
    have hp := ED_par q n m
    obtain ⟨x, ⟨y, e, a, b⟩, hn⟩ := h ((n + d - m) / 2) (by omega)
    have ek : (2 * (((n + d - m) / 2 : Nat) : Int) - d) = (n : Int) - m := by omega
    rw [ek] at e hn
    by_cases hx : n ≤ x
    · omega
    · have := ED_mono' q (x := x + 1) (y := y + 1) (x' := n) (y' := m) (by omega) (by omega)
      omega
  · omega
theorem end_fr {n m : Nat} (hq : ∀ x y, q x y = true → x < n ∧ y < m) : Fr q (ED q n m) ((n : Int) - m) n := by
  refine ⟨m, rfl, Nat.le_refl _, ?_⟩
  have := ED_out q hq 1 1
  omega
/-- At d = 0 all is free. -/
theorem zero_free {x y : Nat} (h : ED q x y ≤ 0) : x = y ∧ ∀ i, i < x → q i i = true := by
  have hg := ED_ge q x y
  obtain rfl : x = y := by omega
  refine ⟨rfl, fun i hi => ?_⟩
  cases c : q i i
  · have := ED_mono' q (x := i + 1) (y := i + 1) (x' := x) (y' := x) (by omega) (by omega)
    rw [ED_ne q c] at this
    omega
  · rfl
end

/-! ### A script, played from (x, y) to the end -/
def Ok (q : Nat → Nat → Bool) (n m : Nat) : List Int → Nat → Nat → Nat → Prop
  | [], x, y, c => x = n ∧ y = m ∧ c = 0
  | e :: t, x, y, c => (e = 0 ∧ q x y = true ∧ Ok q n m t (x + 1) (y + 1) c) ∨ (e = 1 ∧ x < n ∧ ∃ c', c = c' + 1 ∧ Ok q n m t (x + 1) y c') ∨ (e = 2 ∧ y < m ∧ ∃ c', c = c' + 1 ∧ Ok q n m t x (y + 1) c')

/-- The test of the program. -/
def qq (A B : List Int) (x y : Nat) : Bool := decide (x < A.length) && (decide (y < B.length) && decide (A.getD x 0 = B.getD y 0))
theorem qq_in (A B : List Int) (x y : Nat) (h : qq A B x y = true) : x < A.length ∧ y < B.length := by
  simp [qq] at h; exact ⟨h.1, h.2.1⟩
end Go.Proofs.Qxb6600689a
