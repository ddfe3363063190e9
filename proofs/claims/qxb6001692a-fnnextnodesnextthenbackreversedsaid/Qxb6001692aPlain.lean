namespace Go.Proofs.Qxb6001692a
set_option linter.unusedVariables false

/-- The number that bytes spell, the greatest first. -/
def bv : List Int → Int
  | [] => 0
  | z :: zs => z * 256 ^ zs.length + bv zs

/-- Every member is a byte. -/
def Byt (l : List Int) : Prop := ∀ z ∈ l, 0 ≤ z ∧ z ≤ 255

theorem pow256_pos (n : Nat) : (0 : Int) < 256 ^ n := Int.pow_pos (by decide)

theorem Byt.tail {z : Int} {l : List Int} (h : Byt (z :: l)) : Byt l := fun x hx => h x (List.mem_cons_of_mem _ hx)
theorem Byt.head {z : Int} {l : List Int} (h : Byt (z :: l)) : 0 ≤ z ∧ z ≤ 255 := h z (List.mem_cons_self ..)
theorem Byt.drop {l : List Int} (h : Byt l) (n : Nat) : Byt (l.drop n) := fun x hx => h x (List.mem_of_mem_drop hx)
theorem Byt.take {l : List Int} (h : Byt l) (n : Nat) : Byt (l.take n) := fun x hx => h x (List.mem_of_mem_take hx)

theorem bv_bounds : ∀ {l : List Int}, Byt l → 0 ≤ bv l ∧ bv l < 256 ^ l.length
  | [], _ => ⟨Int.le_refl _, by simp [bv]⟩
  | z :: l, h => by
    have ih := bv_bounds h.tail
    have hz := h.head
    have hp := pow256_pos l.length
    simp only [bv, List.length_cons, Int.pow_succ]
    constructor
    · have := Int.mul_nonneg hz.1 (Int.le_of_lt hp); omega
    · have h1 : z * 256 ^ l.length ≤ 255 * 256 ^ l.length := Int.mul_le_mul_of_nonneg_right hz.2 (Int.le_of_lt hp)
      omega

theorem bv_append (a b : List Int) : bv (a ++ b) = bv a * 256 ^ b.length + bv b := by
  induction a with
  | nil => simp [bv]
  | cons z a ih =>
    simp only [List.cons_append, bv, List.length_append, ih, Int.pow_add, Int.add_mul, Int.mul_assoc, Int.add_assoc]

theorem bv_set (l : List Int) (i : Nat) (v : Int) (h : i < l.length) : bv (l.set i v) = bv l + (v - l.getD i 0) * 256 ^ (l.length - 1 - i) := by
  induction l generalizing i with
  | nil => simp at h
  | cons z l ih =>
    cases i with
    | zero => simp [bv, Int.sub_mul]; omega
    | succ i =>
      have h' : i < l.length := by simpa using h
      simp only [List.set_cons_succ, bv, List.length_set, ih i h', List.length_cons]
      have e : l.length + 1 - 1 - (i + 1) = l.length - 1 - i := by omega
      rw [e]
      simp
      omega

theorem Byt.set {l : List Int} (h : Byt l) (i : Nat) {v : Int} (hv : 0 ≤ v ∧ v ≤ 255) : Byt (l.set i v) := by
  intro x hx
  rcases List.mem_or_eq_of_mem_set hx with h' | h'
  · exact h x h'
  · subst h'; exact hv

theorem bv_drop (l : List Int) (i : Nat) (h : i < l.length) : bv (l.drop i) = l.getD i 0 * 256 ^ (l.length - 1 - i) + bv (l.drop (i + 1)) := by
  rw [List.drop_eq_getElem_cons h]
  simp only [bv, List.length_drop]
  have e : l.length - (i + 1) = l.length - 1 - i := by omega
  rw [e]
  simp [List.getD_eq_getElem?_getD, h]

theorem Byt.getD {l : List Int} (h : Byt l) (i : Nat) : 0 ≤ l.getD i 0 ∧ l.getD i 0 ≤ 255 := by
  by_cases hi : i < l.length
  · have : l.getD i 0 = l[i] := by simp [List.getD_eq_getElem?_getD, hi]
    rw [this]; exact h _ (List.getElem_mem hi)
  · have : l.getD i 0 = 0 := by simp [List.getD_eq_getElem?_getD, List.getElem?_eq_none (Nat.le_of_not_lt hi)]
    rw [this]; decide

/-- The order of two numbers, as Go's compare functions spell it. -/
def sgn (a b : Int) : Int := if a < b then -1 else if b < a then 1 else 0

/-- The order of two rows of bytes, by the first place at which they part. -/
def cmpL : List Int → List Int → Int
  | x :: xs, y :: ys => if x < y then -1 else if y < x then 1 else cmpL xs ys
  | [], [] => 0
  | [], _ :: _ => -1
  | _ :: _, [] => 1

theorem mul_lt_step {x y P : Int} (hP : 0 < P) (h : x < y) : x * P + P ≤ y * P := by
  have : (x + 1) * P ≤ y * P := Int.mul_le_mul_of_nonneg_right (by omega) (Int.le_of_lt hP)
  rw [Int.add_mul] at this
  omega

theorem cmpL_sgn : ∀ {xs ys : List Int}, xs.length = ys.length → Byt xs → Byt ys → cmpL xs ys = sgn (bv xs) (bv ys)
  | [], [], _, _, _ => by simp [cmpL, sgn, bv]
  | x :: xs, y :: ys, hl, hx, hy => by
    have hl' : xs.length = ys.length := by simpa using hl
    have ih := cmpL_sgn hl' hx.tail hy.tail
    have bx := bv_bounds hx.tail
    have by' := bv_bounds hy.tail
    have hp := pow256_pos ys.length
    rw [hl'] at bx
    simp only [cmpL, bv, hl']
    by_cases h1 : x < y
    · have := mul_lt_step hp h1
      rw [if_pos h1]; unfold sgn; rw [if_pos (by omega)]
    · by_cases h2 : y < x
      · have := mul_lt_step hp h2
        rw [if_neg h1, if_pos h2]; unfold sgn; rw [if_neg (by omega), if_pos (by omega)]
      · have e : x = y := by omega
        subst e
        rw [if_neg h1, if_neg h2, ih]; unfold sgn
        split <;> split <;> (try split) <;> (try split) <;> omega
  | [], _ :: _, hl, _, _ => by simp at hl
  | _ :: _, [], hl, _, _ => by simp at hl

theorem bv_inj {xs ys : List Int} (hl : xs.length = ys.length) (hx : Byt xs) (hy : Byt ys) (h : bv xs = bv ys) : xs = ys := by
  induction xs generalizing ys with
  | nil => cases ys with | nil => rfl | cons => simp at hl
  | cons x xs ih =>
    cases ys with
    | nil => simp at hl
    | cons y ys =>
      have hl' : xs.length = ys.length := by simpa using hl
      have bx := bv_bounds hx.tail
      have by' := bv_bounds hy.tail
      have hp := pow256_pos ys.length
      rw [hl'] at bx
      simp only [bv, hl'] at h
      have e : x = y := by
        by_cases h1 : x < y
        · have := mul_lt_step hp h1; omega
        · by_cases h2 : y < x
          · have := mul_lt_step hp h2; omega
          · omega
      subst e
      rw [ih hl' hx.tail hy.tail (by omega)]

/-- An identifier: twenty bytes. -/
def Id20 (l : List Int) : Prop := l.length = 20 ∧ Byt l

/-- 2 to the 160th. -/
theorem two160 : (256 : Int) ^ 20 = 1461501637330902918203684832716283019655932542976 := by decide
theorem Id20.bounds {l : List Int} (h : Id20 l) : 0 ≤ bv l ∧ bv l < 1461501637330902918203684832716283019655932542976 := by
  have := bv_bounds h.2
  rw [h.1, two160] at this
  exact this

/-- The head: the first eight bytes. -/
theorem Id20.head {l : List Int} (h : Id20 l) : bv (l.take 8) = bv l / 79228162514264337593543950336 := by
  have e := bv_append (l.take 8) (l.drop 8)
  rw [List.take_append_drop, List.length_drop, h.1] at e
  have b := bv_bounds (h.2.drop 8)
  rw [List.length_drop, h.1] at b
  have p : (256 : Int) ^ (20 - 8) = 79228162514264337593543950336 := by decide
  rw [p] at e b
  omega

/-- How far round the ring x lies after f; f itself a whole turn, less one. -/
def dst (f x : Int) : Int := (x - f - 1) % 1461501637330902918203684832716283019655932542976

theorem dst_self (f : Int) : dst f f = 1461501637330902918203684832716283019655932542975 := by unfold dst; omega

theorem dst_bounds (f x : Int) : 0 ≤ dst f x ∧ dst f x < 1461501637330902918203684832716283019655932542976 := by unfold dst; omega

/-- dst, without '%', inside the ring. -/
theorem dst_gt {f x : Int} (hf : 0 ≤ f ∧ f < 1461501637330902918203684832716283019655932542976) (hx : 0 ≤ x ∧ x < 1461501637330902918203684832716283019655932542976) (h : f < x) : dst f x = x - f - 1 := by
  unfold dst; omega
theorem dst_le {f x : Int} (hf : 0 ≤ f ∧ f < 1461501637330902918203684832716283019655932542976) (hx : 0 ≤ x ∧ x < 1461501637330902918203684832716283019655932542976) (h : x ≤ f) : dst f x = x - f - 1 + 1461501637330902918203684832716283019655932542976 := by
  unfold dst; omega
theorem dst_inj {f x y : Int} (hf : 0 ≤ f ∧ f < 1461501637330902918203684832716283019655932542976) (hx : 0 ≤ x ∧ x < 1461501637330902918203684832716283019655932542976) (hy : 0 ≤ y ∧ y < 1461501637330902918203684832716283019655932542976)
    (h : dst f x = dst f y) : x = y := by
  rcases Int.lt_or_le f x with a | a <;> rcases Int.lt_or_le f y with b | b
  · rw [dst_gt hf hx a, dst_gt hf hy b] at h; omega
  · rw [dst_gt hf hx a, dst_le hf hy b] at h; omega
  · rw [dst_le hf hx a, dst_gt hf hy b] at h; omega
  · rw [dst_le hf hx a, dst_le hf hy b] at h; omega
/-- Turning the ring turns nothing. -/
theorem dst_shift (f x p : Int) : dst ((f + p) % 1461501637330902918203684832716283019655932542976) ((x + p) % 1461501637330902918203684832716283019655932542976) = dst f x := by
  unfold dst; omega

/-- A head: the first eight bytes of a number of twenty. -/
def hd (x : Int) : Int := x / 79228162514264337593543950336

theorem hd_bounds {x : Int} (hx : 0 ≤ x ∧ x < 1461501637330902918203684832716283019655932542976) : 0 ≤ hd x ∧ hd x ≤ 18446744073709551615 := by unfold hd; omega

theorem hd_lt {x y : Int} (h : hd x < hd y) : x < y := by unfold hd at h; omega

theorem sgn_lt {a b : Int} (h : a < b) : sgn a b = -1 := if_pos h
theorem sgn_gt {a b : Int} (h : b < a) : sgn a b = 1 := by unfold sgn; rw [if_neg (by omega), if_pos h]
theorem sgn_eq {a b : Int} (h : a = b) : sgn a b = 0 := by unfold sgn; rw [if_neg (by omega), if_neg (by omega)]
theorem sgn_cases (a b : Int) : (a < b ∧ sgn a b = -1) ∨ (b < a ∧ sgn a b = 1) ∨ (a = b ∧ sgn a b = 0) := by
  rcases Int.lt_trichotomy a b with h | h | h
  · exact .inl ⟨h, sgn_lt h⟩
  · exact .inr (.inr ⟨h, sgn_eq h⟩)
  · exact .inr (.inl ⟨h, sgn_gt h⟩)

abbrev Ring (x : Int) : Prop := 0 ≤ x ∧ x < 1461501637330902918203684832716283019655932542976

/-- compareFrom, where the three heads part. -/
theorem cf_heads {f x y : Int} (hf : Ring f) (hx : Ring x) (hy : Ring y) (h1 : hd f ≠ hd x) (h2 : hd f ≠ hd y) (h3 : hd x ≠ hd y) :
    sgn ((hd x - hd f) % 18446744073709551616) ((hd y - hd f) % 18446744073709551616) = sgn (dst f x) (dst f y) := by
  have bf := hd_bounds hf
  have bx := hd_bounds hx
  have b_y := hd_bounds hy
  have k1 : ∀ a, hd f < a → a ≤ 18446744073709551615 → (a - hd f) % 18446744073709551616 = a - hd f := by intro a _ _; omega
  have k2 : ∀ a, 0 ≤ a → a < hd f → (a - hd f) % 18446744073709551616 = a - hd f + 18446744073709551616 := by intro a _ _; omega
  have s1 : ∀ {a b c d : Int}, a < b → c < d → sgn a b = sgn c d := fun p q => by rw [sgn_lt p, sgn_lt q]
  have s2 : ∀ {a b c d : Int}, b < a → d < c → sgn a b = sgn c d := fun p q => by rw [sgn_gt p, sgn_gt q]
  rcases Int.lt_or_gt_of_ne h1 with a | a <;> rcases Int.lt_or_gt_of_ne h2 with b | b <;> rcases Int.lt_or_gt_of_ne h3 with c | c
  · rw [k1 _ a bx.2, k1 _ b b_y.2, dst_gt hf hx (hd_lt a), dst_gt hf hy (hd_lt b)]; exact s1 (by omega) (by have := hd_lt c; omega)
  · rw [k1 _ a bx.2, k1 _ b b_y.2, dst_gt hf hx (hd_lt a), dst_gt hf hy (hd_lt b)]; exact s2 (by omega) (by have := hd_lt c; omega)
  · omega
  · rw [k1 _ a bx.2, k2 _ b_y.1 b, dst_gt hf hx (hd_lt a), dst_le hf hy (Int.le_of_lt (hd_lt b))]; exact s1 (by omega) (by have := hd_lt c; omega)
  · rw [k2 _ bx.1 a, k1 _ b b_y.2, dst_le hf hx (Int.le_of_lt (hd_lt a)), dst_gt hf hy (hd_lt b)]; exact s2 (by omega) (by have := hd_lt c; omega)
  · omega
  · rw [k2 _ bx.1 a, k2 _ b_y.1 b, dst_le hf hx (Int.le_of_lt (hd_lt a)), dst_le hf hy (Int.le_of_lt (hd_lt b))]; exact s1 (by omega) (by have := hd_lt c; omega)
  · rw [k2 _ bx.1 a, k2 _ b_y.1 b, dst_le hf hx (Int.le_of_lt (hd_lt a)), dst_le hf hy (Int.le_of_lt (hd_lt b))]; exact s2 (by omega) (by have := hd_lt c; omega)

/-- compareFrom, where they do not. -/
theorem cf_bytes {f x y : Int} (hf : Ring f) (hx : Ring x) (hy : Ring y) :
    (if decide (sgn x f ≤ 0) = decide (sgn y f ≤ 0) then sgn x y else if decide (sgn x f ≤ 0) = true then 1 else -1) = sgn (dst f x) (dst f y) := by
  rcases Int.lt_or_le f x with a | a <;> rcases Int.lt_or_le f y with b | b
  · rw [dst_gt hf hx a, dst_gt hf hy b, sgn_gt a, sgn_gt b, if_pos rfl]; unfold sgn; split <;> split <;> (try split) <;> (try split) <;> omega
  · rw [dst_gt hf hx a, dst_le hf hy b, sgn_gt a, sgn_lt (a := x - f - 1) (by omega)]
    have : sgn y f ≤ 0 := by rcases sgn_cases y f with h | h | h <;> omega
    simp [this]
  · rw [dst_le hf hx a, dst_gt hf hy b, sgn_gt b, sgn_gt (b := y - f - 1) (by omega)]
    have : sgn x f ≤ 0 := by rcases sgn_cases x f with h | h | h <;> omega
    simp [this]
  · rw [dst_le hf hx a, dst_le hf hy b]
    have h1 : sgn x f ≤ 0 := by rcases sgn_cases x f with h | h | h <;> omega
    have h2 : sgn y f ≤ 0 := by rcases sgn_cases y f with h | h | h <;> omega
    simp only [h1, h2]
    rw [if_pos trivial]; unfold sgn; split <;> split <;> (try split) <;> (try split) <;> omega

/-- headBetween. -/
def hb (x lo hi : Int) : Bool := if lo < hi then decide (lo < x) && decide (x < hi) else decide (lo < x) || decide (x < hi)

theorem hb_iff (x lo hi : Int) : hb x lo hi = true ↔ (lo < hi ∧ lo < x ∧ x < hi) ∨ (hi ≤ lo ∧ (lo < x ∨ x < hi)) := by
  unfold hb
  split
  · simp only [Bool.and_eq_true, decide_eq_true_eq]; omega
  · simp only [Bool.or_eq_true, decide_eq_true_eq]; omega

theorem hb_heads {x a b : Int} (hx : Ring x) (ha : Ring a) (hb' : Ring b) (h1 : hd x ≠ hd a) (h2 : hd x ≠ hd b) (h3 : hd a ≠ hd b) :
    hb (hd x) (hd a) (hd b) = decide (dst a x < dst a b) := by
  rw [Bool.eq_iff_iff, hb_iff, decide_eq_true_eq]
  rcases Int.lt_or_gt_of_ne h1 with p | p <;> rcases Int.lt_or_gt_of_ne h2 with q | q <;> rcases Int.lt_or_gt_of_ne h3 with r | r <;> have p' := hd_lt p <;> have q' := hd_lt q <;> have r' := hd_lt r
  · rw [dst_le ha hx (Int.le_of_lt p'), dst_gt ha hb' r']; omega
  · rw [dst_le ha hx (Int.le_of_lt p'), dst_le ha hb' (Int.le_of_lt r')]; omega
  · omega
  · rw [dst_le ha hx (Int.le_of_lt p'), dst_le ha hb' (Int.le_of_lt r')]; omega
  · rw [dst_gt ha hx p', dst_gt ha hb' r']; omega
  · omega
  · rw [dst_gt ha hx p', dst_gt ha hb' r']; omega
  · rw [dst_gt ha hx p', dst_le ha hb' (Int.le_of_lt r')]; omega

/-- between, by whole identifiers. -/
theorem bet_lt {x a b : Int} (hx : Ring x) (ha : Ring a) (hb' : Ring b) (h : a < b) : (decide (a < x) && decide (x < b)) = decide (dst a x < dst a b) := by
  rw [Bool.eq_iff_iff, Bool.and_eq_true, decide_eq_true_eq, decide_eq_true_eq, decide_eq_true_eq, dst_gt ha hb' h]
  rcases Int.lt_or_le a x with p | p
  · rw [dst_gt ha hx p]; omega
  · rw [dst_le ha hx p]; omega
theorem bet_gt {x a b : Int} (hx : Ring x) (ha : Ring a) (hb' : Ring b) (h : b < a) : (decide (a < x) || decide (x < b)) = decide (dst a x < dst a b) := by
  rw [Bool.eq_iff_iff, Bool.or_eq_true, decide_eq_true_eq, decide_eq_true_eq, decide_eq_true_eq, dst_le ha hb' (Int.le_of_lt h)]
  rcases Int.lt_or_le a x with p | p
  · rw [dst_gt ha hx p]; omega
  · rw [dst_le ha hx p]; omega
theorem bet_eq {x a : Int} (hx : Ring x) (ha : Ring a) : decide (x ≠ a) = decide (dst a x < dst a a) := by
  rw [Bool.eq_iff_iff, decide_eq_true_eq, decide_eq_true_eq, dst_self]
  rcases Int.lt_or_le a x with p | p
  · rw [dst_gt ha hx p]; omega
  · rw [dst_le ha hx p]; omega
/-- inRange: b, or between. -/
theorem inr_eq {x a b : Int} (hx : Ring x) (ha : Ring a) (hb' : Ring b) : (decide (x = b) || decide (dst a x < dst a b)) = decide (dst a x ≤ dst a b) := by
  rw [Bool.eq_iff_iff, Bool.or_eq_true, decide_eq_true_eq, decide_eq_true_eq, decide_eq_true_eq]
  constructor
  · rintro (h | h)
    · subst h; exact Int.le_refl _
    · exact Int.le_of_lt h
  · intro h
    rcases Int.lt_or_eq_of_le h with h | h
    · exact .inr h
    · exact .inl (dst_inj ha hx hb' h)
theorem inr_heads {x a b : Int} (hx : Ring x) (ha : Ring a) (hb' : Ring b) (h1 : hd x ≠ hd a) (h2 : hd x ≠ hd b) (h3 : hd a ≠ hd b) :
    hb (hd x) (hd a) (hd b) = decide (dst a x ≤ dst a b) := by
  rw [hb_heads hx ha hb' h1 h2 h3, ← inr_eq hx ha hb']
  have : x ≠ b := fun e => h2 (by rw [e])
  simp [this]

/-! ### FnHeadBetweenIsRotatedArc: numbers of 64 bits -/
theorem arc_other {x lo hi : Int} (h1 : x ≠ lo) (h2 : x ≠ hi) (h3 : lo ≠ hi) : (hb x lo hi == hb x hi lo) = false := by
  have e : hb x lo hi = !hb x hi lo := by
    rw [Bool.eq_iff_iff, Bool.not_eq_true', Bool.eq_false_iff, Ne, hb_iff, hb_iff]; omega
  rw [e]; cases hb x hi lo <;> rfl
theorem arc_dist {x lo hi : Int} (hx : 0 ≤ x ∧ x ≤ 18446744073709551615) (hl : 0 ≤ lo ∧ lo ≤ 18446744073709551615) (hh : 0 ≤ hi ∧ hi ≤ 18446744073709551615) (h1 : x ≠ lo) (h2 : x ≠ hi) (h3 : lo ≠ hi) :
    hb x lo hi = decide ((x - lo) % 18446744073709551616 < (hi - lo) % 18446744073709551616) := by
  rw [Bool.eq_iff_iff, hb_iff, decide_eq_true_eq]; omega
theorem arc_turn {x lo hi : Int} (c : Int) (hx : 0 ≤ x ∧ x ≤ 18446744073709551615) (hl : 0 ≤ lo ∧ lo ≤ 18446744073709551615) (hh : 0 ≤ hi ∧ hi ≤ 18446744073709551615) (h1 : x ≠ lo) (h2 : x ≠ hi) (h3 : lo ≠ hi) :
    hb x lo hi = hb ((x + c) % 18446744073709551616) ((lo + c) % 18446744073709551616) ((hi + c) % 18446744073709551616) := by
  rw [Bool.eq_iff_iff, hb_iff, hb_iff]; omega

/-! ### plusPowerOfTwo -/
theorem pow_eight (n : Nat) : (2 : Int) ^ (8 * n) = 256 ^ n := by rw [Int.pow_mul]; rfl
theorem pow_split (k : Nat) : (2 : Int) ^ k = 2 ^ (k % 8) * 256 ^ (k / 8) := by
  rw [← pow_eight, ← Int.pow_add]; congr 1; omega
theorem pow_succ256 (n : Nat) : (256 : Int) ^ (n + 1) = 256 ^ n * 256 := Int.pow_succ 256 n

/-- One round: the byte and the carry. -/
theorem pp_step {l : List Int} (hl : l.length = 20) {i : Nat} (hi : i < 20) (c : Int) :
    bv (l.set i ((l.getD i 0 + c) % 256)) + (l.getD i 0 + c) / 256 * 256 ^ (20 - i) = bv l + c * 256 ^ (19 - i) := by
  rw [bv_set l i _ (by omega), hl]
  have e : 20 - i = (19 - i) + 1 := by omega
  have e' : 20 - 1 - i = 19 - i := by omega
  rw [e, e', pow_succ256]
  have h : (l.getD i 0 + c) % 256 - l.getD i 0 + (l.getD i 0 + c) / 256 * 256 = c := by omega
  have := congrArg (· * (256 : Int) ^ (19 - i)) h
  simp only [Int.add_mul] at this
  rw [Int.mul_comm (256 ^ (19 - i)) 256, ← Int.mul_assoc]
  omega

/-- At the end: the carry has gone, or has left the ring. -/
theorem pp_end_zero {l : List Int} (h : Id20 l) {x p q : Int} (e : bv l + 0 * q = x + p) : bv l = (x + p) % 1461501637330902918203684832716283019655932542976 := by
  have := h.bounds; omega
theorem pp_end_out {l : List Int} (h : Id20 l) {x p c : Int} (e : bv l + c * 256 ^ 20 = x + p) : bv l = (x + p) % 1461501637330902918203684832716283019655932542976 := by
  have := h.bounds; rw [two160] at e; omega

/-! ### startsUpTo -/
/-- One round of the difference. -/
theorem su_step {d t a : List Int} (hd' : d.length = 20) (ht : t.length = 20) (ha : a.length = 20) {i : Nat} (hi : i < 20) (v b b' : Int)
    (hv : v = t.getD i 0 - a.getD i 0 - b + b' * 256)
    (e : bv (d.drop (i + 1)) = bv (t.drop (i + 1)) - bv (a.drop (i + 1)) + b * 256 ^ (19 - i)) :
    bv ((d.set i v).drop i) = bv (t.drop i) - bv (a.drop i) + b' * 256 ^ (20 - i) := by
  have e1 := bv_drop (d.set i v) i (by simpa [hd'] using hi)
  have e2 := bv_drop t i (by omega)
  have e3 := bv_drop a i (by omega)
  have g : (d.set i v).getD i 0 = v := by simp [List.getD_eq_getElem?_getD, hd', hi]
  have g' : (d.set i v).drop (i + 1) = d.drop (i + 1) := by rw [List.drop_set_of_lt (by omega)]
  rw [g, g', List.length_set, hd'] at e1
  rw [ht] at e2
  rw [ha] at e3
  have x : 20 - i = (19 - i) + 1 := by omega
  have x' : 20 - 1 - i = 19 - i := by omega
  rw [x'] at e1 e2 e3
  rw [e1, e2, e3, e, x, pow_succ256, hv]
  simp only [Int.add_mul, Int.sub_mul, Int.mul_assoc]
  rw [Int.mul_comm (256 ^ (19 - i)) 256]
  omega

theorem su_end {d t a : List Int} (h : Id20 d) {b : Int} (e : bv (d.drop 0) = bv (t.drop 0) - bv (a.drop 0) + b * 256 ^ (20 - 0)) :
    bv d = (bv t - bv a) % 1461501637330902918203684832716283019655932542976 := by
  have := h.bounds
  simp only [List.drop_zero] at e
  rw [show 20 - 0 = 20 from rfl, two160] at e
  omega

theorem bv_zeros : ∀ {l : List Int}, (∀ j, l.getD j 0 = 0) → bv l = 0
  | [], _ => rfl
  | z :: l, h => by
    have h0 : z = 0 := by simpa using h 0
    have ih := bv_zeros (l := l) (fun j => by simpa using h (j + 1))
    simp [bv, h0, ih]

/-- Leading zero bytes count for nothing. -/
theorem bv_lead {l : List Int} (n : Nat) (h : ∀ j, j < n → l.getD j 0 = 0) : bv l = bv (l.drop n) := by
  induction n with
  | zero => simp
  | succ n ih =>
    rw [ih (fun j hj => h j (by omega))]
    by_cases hn : n < l.length
    · rw [bv_drop l n hn, h n (by omega)]; simp
    · rw [List.drop_eq_nil_of_le (by omega), List.drop_eq_nil_of_le (by omega)]

/-- r bits: what startsUpTo answers, for the distance d; for none, all 160. -/
def Bits (d : Int) (r : Nat) : Prop := (d = 0 ∧ r = 160) ∨ (1 ≤ r ∧ r ≤ 160 ∧ (2 : Int) ^ (r - 1) ≤ d ∧ d < 2 ^ r)

theorem su_first {d : List Int} (h : Id20 d) {i L : Nat} (hi : i < 20) (hz : ∀ j, j < i → d.getD j 0 = 0) (hL : 1 ≤ L) (hL' : L ≤ 8)
    (h1 : (2 : Int) ^ (L - 1) ≤ d.getD i 0) (h2 : d.getD i 0 < (2 : Int) ^ L) : Bits (bv d) ((19 - i) * 8 + L) := by
  refine .inr ⟨by omega, by omega, ?_⟩
  rw [bv_lead i hz, bv_drop d i (by rw [h.1]; exact hi), h.1]
  have b := bv_bounds (h.2.drop (i + 1))
  rw [List.length_drop, h.1] at b
  have x : 20 - (i + 1) = 19 - i := by omega
  have x' : 20 - 1 - i = 19 - i := by omega
  rw [x] at b
  rw [x']
  have p := pow256_pos (19 - i)
  have q1 : (2 : Int) ^ ((19 - i) * 8 + L - 1) = 2 ^ (L - 1) * 256 ^ (19 - i) := by
    rw [← pow_eight, ← Int.pow_add]; congr 1; omega
  have q2 : (2 : Int) ^ ((19 - i) * 8 + L) = 2 ^ L * 256 ^ (19 - i) := by
    rw [← pow_eight, ← Int.pow_add]; congr 1; omega
  rw [q1, q2]
  have r1 : (2 : Int) ^ (L - 1) * 256 ^ (19 - i) ≤ d.getD i 0 * 256 ^ (19 - i) := Int.mul_le_mul_of_nonneg_right h1 (Int.le_of_lt p)
  have r2 := mul_lt_step p h2
  exact ⟨by omega, by omega⟩

theorem su_none {d : List Int} (h : Id20 d) (hz : ∀ j, j < 20 → d.getD j 0 = 0) : Bits (bv d) 160 := by
  refine .inl ⟨?_, rfl⟩
  rw [bv_lead 20 hz, List.drop_eq_nil_of_le (by rw [h.1]; exact Nat.le_refl _)]; rfl

theorem two_pos (n : Nat) : (0 : Int) < 2 ^ n := Int.pow_pos (by decide)
theorem two_le {m n : Nat} (h : m ≤ n) : (2 : Int) ^ m ≤ 2 ^ n := by
  obtain ⟨j, rfl⟩ : ∃ j, n = m + j := ⟨n - m, by omega⟩
  have p := two_pos m
  induction j with
  | zero => exact Int.le_refl _
  | succ j ih =>
    have := ih (by omega)
    rw [← Nat.add_assoc, Int.pow_succ]
    omega
theorem two_lt {m n : Nat} (h : m < n) : (2 : Int) ^ m < 2 ^ n := by
  have := two_le (Nat.succ_le_of_lt h)
  have p := two_pos m
  rw [Nat.succ_eq_add_one, Int.pow_succ] at this
  omega
theorem two159 : (2 : Int) ^ 159 = 730750818665451459101842416358141509827966271488 := by decide
theorem two160' : (2 : Int) ^ 160 = 1461501637330902918203684832716283019655932542976 := by decide

/-- The finger start a + 2^m lies in (a, t] exactly when m is below the number of bits of t - a. -/
theorem finger_in {a t : Int} (ha : Ring a) (ht : Ring t) {r m : Nat} (hm : m < 160) (hB : Bits ((t - a) % 1461501637330902918203684832716283019655932542976) r) :
    decide (dst a ((a + 2 ^ m) % 1461501637330902918203684832716283019655932542976) ≤ dst a t) = decide (m < r) := by
  have p := two_pos m
  have q : (2 : Int) ^ m ≤ 730750818665451459101842416358141509827966271488 := by rw [← two159]; exact two_le (by omega)
  have e : dst a ((a + 2 ^ m) % 1461501637330902918203684832716283019655932542976) = 2 ^ m - 1 := by unfold dst; omega
  rw [e, Bool.eq_iff_iff, decide_eq_true_eq, decide_eq_true_eq]
  rcases hB with ⟨h0, rfl⟩ | ⟨r1, r2, h1, h2⟩
  · have : dst a t = 1461501637330902918203684832716283019655932542975 := by unfold dst; omega
    rw [this]; omega
  · have pr := two_pos (r - 1)
    have : dst a t = (t - a) % 1461501637330902918203684832716283019655932542976 - 1 := by unfold dst; omega
    rw [this]
    constructor
    · intro h
      rcases Nat.lt_or_ge m r with g | g
      · exact g
      · have := two_le g; omega
    · intro h
      have := two_le (show m ≤ r - 1 by omega); omega

theorem bits_self {a : Int} : Bits ((a - a) % 1461501637330902918203684832716283019655932542976) 160 := .inl ⟨by omega, rfl⟩
theorem Bits.eq {d : Int} {r r' : Nat} (h : Bits d r) (h' : Bits d r') : r = r' := by
  rcases h with ⟨h0, rfl⟩ | ⟨r1, r2, h1, h2⟩ <;> rcases h' with ⟨g0, rfl⟩ | ⟨s1, s2, g1, g2⟩
  · rfl
  · have := two_pos (r' - 1); omega
  · have := two_pos (r - 1); omega
  · rcases Nat.lt_trichotomy r r' with c | c | c
    · have := two_le (show r ≤ r' - 1 by omega); omega
    · exact c
    · have := two_le (show r' ≤ r - 1 by omega); omega
theorem bits_pow {a : Int} (ha : Ring a) {k : Nat} (hk : k < 160) : Bits (((a + 2 ^ k) % 1461501637330902918203684832716283019655932542976 - a) % 1461501637330902918203684832716283019655932542976) (k + 1) := by
  have p := two_pos k
  have q : (2 : Int) ^ k ≤ 730750818665451459101842416358141509827966271488 := by rw [← two159]; exact two_le (by omega)
  have e : ((a + 2 ^ k) % 1461501637330902918203684832716283019655932542976 - a) % 1461501637330902918203684832716283019655932542976 = 2 ^ k := by omega
  rw [e]
  exact .inr ⟨by omega, by omega, Int.le_refl _, two_lt (by omega)⟩

end Go.Proofs.Qxb6001692a
