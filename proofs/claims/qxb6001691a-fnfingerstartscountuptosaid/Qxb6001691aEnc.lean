import Derived.Test.Qxb6001691aSu
import Derived.Test.Qxb6001691aPp
namespace Go.Proofs.Qxb6001691a
open Go.ChangeShapes Go.WideShapes Go.ChangeAt Go.RowKit

/-- The k bytes of a number, the greatest first. -/
def enc : Nat → Int → List Int
  | 0, _ => []
  | k + 1, n => (n / 256 ^ k % 256) :: enc k n
theorem enc_length : ∀ (k : Nat) (n : Int), (enc k n).length = k
  | 0, _ => rfl
  | k + 1, n => by simp [enc, enc_length k n]
theorem enc_byt : ∀ (k : Nat) (n : Int), Byt (enc k n)
  | 0, _ => fun _ h => by cases h
  | k + 1, n => fun z hz => by
    rcases List.mem_cons.1 hz with h | h
    · subst h; omega
    · exact enc_byt k n z h
theorem emod_mul_split (n a b : Int) (ha : 0 < a) (hb : 0 < b) : n % (a * b) = n / a % b * a + n % a := by
  have h1 := Int.mul_ediv_add_emod n a
  have h2 := Int.mul_ediv_add_emod (n / a) b
  have r1 := Int.emod_nonneg n (Int.ne_of_gt ha)
  have r2 := Int.emod_lt_of_pos n ha
  have s1 := Int.emod_nonneg (n / a) (Int.ne_of_gt hb)
  have s2 := Int.emod_lt_of_pos (n / a) hb
  have e : n = (a * b) * (n / a / b) + (n / a % b * a + n % a) := by
    have : a * (n / a) = (a * b) * (n / a / b) + n / a % b * a := by
      rw [← congrArg (a * ·) h2]
      simp only [Int.mul_add, Int.mul_assoc]
      rw [Int.mul_comm (n / a % b) a]
    omega
  have lo : 0 ≤ n / a % b * a + n % a := by
    have := Int.mul_nonneg s1 (Int.le_of_lt ha); omega
  have hi : n / a % b * a + n % a < a * b := by
    have : (n / a % b + 1) * a ≤ b * a := Int.mul_le_mul_of_nonneg_right (by omega) (Int.le_of_lt ha)
    rw [Int.add_mul, Int.one_mul] at this
    rw [Int.mul_comm a b]
    omega
  have : n % (a * b) = (n / a % b * a + n % a) % (a * b) := by
    conv => lhs; rw [e]
    rw [Int.mul_add_emod_self_left]
  rw [this, Int.emod_eq_of_lt lo hi]
theorem bv_enc : ∀ (k : Nat) (n : Int), bv (enc k n) = n % 256 ^ k
  | 0, n => by simp [enc, bv, Int.emod_one]
  | k + 1, n => by
    rw [enc, bv, enc_length, bv_enc k n, Int.pow_succ, emod_mul_split n (256 ^ k) 256 (pow256_pos k) (by decide)]
/-- id + 2^k, as the identifier that it is. -/
def ppL (xs : List Int) (k : Nat) : List Int := enc 20 ((bv xs + 2 ^ k) % 1461501637330902918203684832716283019655932542976)
theorem ppL_id (xs : List Int) (k : Nat) : Id20 (ppL xs k) := ⟨enc_length _ _, enc_byt _ _⟩
theorem ppL_bv (xs : List Int) (k : Nat) : bv (ppL xs k) = (bv xs + 2 ^ k) % 1461501637330902918203684832716283019655932542976 := by
  rw [ppL, bv_enc, two160]
  omega
theorem zzPlusPower_fn (xs : List Int) (hx : Id20 xs) (k : Nat) (hk : k < 160) (w : World) :
    Calls Try.prog 11 #[.agg (idc xs), .int .i64 (k : Int)] w fun e w' => e = .returned (.agg (idc (ppL xs k))) ∧ Below w.heap.size w w' :=
  (zzPlusPower_any xs hx k hk w).mono fun e w' ⟨ys, hi, hv, he, hb⟩ => by
    have : ys = ppL xs k := bv_inj (by rw [hi.1, (ppL_id xs k).1]) hi.2 (ppL_id xs k).2 (by rw [hv, ppL_bv])
    subst this
    exact ⟨he, hb⟩

theorem bits_exists {d : Int} (h0 : 0 ≤ d) (h1 : d < 1461501637330902918203684832716283019655932542976) : ∃ r, Bits d r := by
  by_cases e : d = 0
  · exact ⟨160, .inl ⟨e, rfl⟩⟩
  · obtain ⟨n, rfl⟩ := Int.eq_ofNat_of_zero_le h0
    have hn : n ≠ 0 := by omega
    have a1 := Nat.log2_self_le hn
    have a2 : n < 2 ^ (Nat.log2 n + 1) := Nat.lt_log2_self
    have b1 : ((2 : Int) ^ Nat.log2 n) ≤ (n : Int) := by exact_mod_cast a1
    have b2 : (n : Int) < (2 : Int) ^ (Nat.log2 n + 1) := by exact_mod_cast a2
    refine ⟨Nat.log2 n + 1, .inr ⟨by omega, ?_, by simpa using b1, b2⟩⟩
    rcases Nat.lt_or_ge (Nat.log2 n) 160 with c | c
    · omega
    · have := two_le c
      rw [two160'] at this
      omega

set_option maxHeartbeats 1000000 in
theorem zzStartsUpTo_any (us ts : List Int) (ha : Id20 us) (ht : Id20 ts) (w : World) :
    Calls Try.prog 12 #[.agg (idc us), .agg (idc ts)] w fun e w' => ∃ r : Nat, Bits ((bv ts - bv us) % 1461501637330902918203684832716283019655932542976) r ∧ e = .returned (.int .i64 (r : Int)) ∧ Below w.heap.size w w' := by
  go_enter Try.func12, Try.ntmps12
  go_wp2_with (first
    | (refine wpl_box rfl _ rfl _ rfl (by assumption) ?_; intro g w' hs hb hl; simp only [Act.put, List.setIfInBounds_toArray, List.set_cons_zero, List.set_cons_succ])
    | (refine wpl_load26 rfl _ rfl _ rfl ?_ ?_ ?_; rotate_left; (focus ((repeat (first | assumption | (apply Has.via; focus assumption))); done)); simp only [Act.put, List.setIfInBounds_toArray, List.set_cons_zero, List.set_cons_succ])
    | (go_at_call 34; refine (startsUpTo_any us ts ha ht _).mono ?_; rintro e w' ⟨r, hB, rfl, hb'⟩))
  go_ret
  refine ⟨r, hB, rfl, ?_⟩
  repeat (first | assumption | (apply Below.via; focus assumption))
theorem zzStartsUpTo_lit (us ts : List Int) (ha : Id20 us) (ht : Id20 ts) (r : Nat) (h : Bits ((bv ts - bv us) % 1461501637330902918203684832716283019655932542976) r) (w : World) :
    Calls Try.prog 12 #[.agg (idc us), .agg (idc ts)] w fun e w' => e = .returned (.int .i64 (r : Int)) ∧ Below w.heap.size w w' :=
  (zzStartsUpTo_any us ts ha ht w).mono fun e w' ⟨r', hB, he, hb⟩ => by rw [Bits.eq h hB]; exact ⟨he, hb⟩
end Go.Proofs.Qxb6001691a
