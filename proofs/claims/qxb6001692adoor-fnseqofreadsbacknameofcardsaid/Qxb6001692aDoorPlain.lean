import Derived.Lib.AtoiAllCases
import Derived.Lib.ItoaNum
namespace Go.Proofs.Qxb6001692aDoor
open Go

theorem parse_app (r : List UInt8) : ∀ (l : List UInt8) (acc u : Nat), Lib.parseUint10 acc l = .ok u → Lib.parseUint10 acc (l ++ r) = Lib.parseUint10 u r
  | [], acc, u, h => by
    simp only [Lib.parseUint10] at h
    injection h with h
    rw [h]; rfl
  | c :: l, acc, u, h => by
    rw [List.cons_append]
    simp only [Lib.parseUint10] at h ⊢
    split at h
    · rename_i h1
      rw [if_pos h1]
      split at h
      · cases h
      · rename_i h2
        rw [if_neg h2]
        split at h
        · cases h
        · rename_i h3
          rw [if_neg h3]
          exact parse_app r l _ u h
    · cases h
theorem digit_toNat {d : Nat} (h : d < 10) : (UInt8.ofNat (48 + d)).toNat = 48 + d := by
  rw [UInt8.toNat_ofNat']; omega
theorem parse_dec (u : Nat) (hu : u < 18446744073709551616) : Lib.parseUint10 0 (Lib.decDigits u) = .ok u := by
  induction u using Nat.strongRecOn with
  | ind u ih =>
    rw [Lib.decDigits]
    split
    · rename_i h
      simp only [Lib.parseUint10, digit_toNat h]
      rw [if_pos (by omega), if_neg (by omega), if_neg (by omega)]
      simp
    · rename_i h
      have := ih (u / 10) (by omega) (by omega)
      rw [parse_app _ _ _ _ this]
      simp only [Lib.parseUint10, digit_toNat (show u % 10 < 10 by omega)]
      rw [if_pos (by omega), if_neg (by omega), if_neg (by omega)]
      congr 1
      omega
theorem dec_head (u : Nat) : ∃ c r, Lib.decDigits u = c :: r ∧ 48 ≤ c.toNat ∧ c.toNat ≤ 57 := by
  induction u using Nat.strongRecOn with
  | ind u ih =>
    rw [Lib.decDigits]
    split
    · rename_i h
      exact ⟨_, _, rfl, by rw [digit_toNat h]; omega, by rw [digit_toNat h]; omega⟩
    · rename_i h
      obtain ⟨c, r, e, h1, h2⟩ := ih (u / 10) (by omega)
      exact ⟨c, r ++ _, by rw [e]; rfl, h1, h2⟩
/-- Atoi reads back what Itoa wrote. -/
theorem atoi_itoa (n : Int) (h0 : -9223372036854775808 ≤ n) (h1 : n ≤ 9223372036854775807) : Lib.atoiAll (Lib.itoa n) = .ok n := by
  unfold Lib.itoa
  split
  · rename_i h
    rw [Lib.atoiAll_minus]
    have hp : Lib.parseMag (Lib.decDigits n.natAbs) = .ok n.natAbs := by
      obtain ⟨c, r, e, _⟩ := dec_head n.natAbs
      unfold Lib.parseMag
      rw [if_neg (by rw [e]; simp)]
      exact parse_dec _ (by omega)
    rw [hp]
    simp only [Lib.signed]
    rw [if_neg (by omega)]
    congr 1
    omega
  · rename_i h
    obtain ⟨c, r, e, g1, g2⟩ := dec_head n.toNat
    have hp : Lib.parseMag (Lib.decDigits n.toNat) = .ok n.toNat := by
      unfold Lib.parseMag
      rw [if_neg (by rw [e]; simp)]
      exact parse_dec _ (by omega)
    rw [e] at hp ⊢
    rw [Lib.atoiAll_plain c r (by omega) (by omega), hp]
    simp only [Lib.signless]
    rw [if_neg (by omega)]
    congr 1
    omega
end Go.Proofs.Qxb6001692aDoor
