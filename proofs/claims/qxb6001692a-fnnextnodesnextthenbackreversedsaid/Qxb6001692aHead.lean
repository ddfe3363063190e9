import Derived.Test.Qxb6001692aMem
import Derived.Laws.Bits64b
import Derived.Deep.QuietTactic
import Derived.BigQuiet
import Derived.Laws.Externs
namespace Go.Proofs.Qxb6001692a
open Go.ChangeShapes Go.WideShapes Go.ChangeAt Go.RowKit

theorem or_u64 (i : Nat) (y x : Int) (hy₀ : 0 ≤ y) (hy : y < 2 ^ i) (hy₁ : y < 18446744073709551616) (hx₀ : 0 ≤ x) (hx : x % 2 ^ i = 0) (hx₁ : x < 18446744073709551616) : bits .or .u64 y x = y + x := by
  have h := bits_join .u64 64 (by decide) (fun n h0 h1 => by rw [IntKind.wrap_u64]; omega) i x y hx₀ hx (by omega) hy₀ hy (by omega)
  obtain ⟨a, rfl⟩ := Int.eq_ofNat_of_zero_le hx₀
  obtain ⟨b, rfl⟩ := Int.eq_ofNat_of_zero_le hy₀
  rw [bits_or_u64_nat _ _ (by omega) (by omega)] at h ⊢
  rw [Nat.or_comm, h]; omega
theorem or8 {y x : Int} (hy₀ : 0 ≤ y) (hy : y < 256) (hx₀ : 0 ≤ x) (hx : x % 256 = 0) (hx₁ : x < 18446744073709551616) : bits .or .u64 y x = y + x := or_u64 8 y x hy₀ hy (by omega) hx₀ hx hx₁
theorem or16 {y x : Int} (hy₀ : 0 ≤ y) (hy : y < 65536) (hx₀ : 0 ≤ x) (hx : x % 65536 = 0) (hx₁ : x < 18446744073709551616) : bits .or .u64 y x = y + x := or_u64 16 y x hy₀ hy (by omega) hx₀ hx hx₁
theorem or24 {y x : Int} (hy₀ : 0 ≤ y) (hy : y < 16777216) (hx₀ : 0 ≤ x) (hx : x % 16777216 = 0) (hx₁ : x < 18446744073709551616) : bits .or .u64 y x = y + x := or_u64 24 y x hy₀ hy (by omega) hx₀ hx hx₁
theorem or32 {y x : Int} (hy₀ : 0 ≤ y) (hy : y < 4294967296) (hx₀ : 0 ≤ x) (hx : x % 4294967296 = 0) (hx₁ : x < 18446744073709551616) : bits .or .u64 y x = y + x := or_u64 32 y x hy₀ hy (by omega) hx₀ hx hx₁
theorem or40 {y x : Int} (hy₀ : 0 ≤ y) (hy : y < 1099511627776) (hx₀ : 0 ≤ x) (hx : x % 1099511627776 = 0) (hx₁ : x < 18446744073709551616) : bits .or .u64 y x = y + x := or_u64 40 y x hy₀ hy (by omega) hx₀ hx hx₁
theorem or48 {y x : Int} (hy₀ : 0 ≤ y) (hy : y < 281474976710656) (hx₀ : 0 ≤ x) (hx : x % 281474976710656 = 0) (hx₁ : x < 18446744073709551616) : bits .or .u64 y x = y + x := or_u64 48 y x hy₀ hy (by omega) hx₀ hx hx₁
theorem or56 {y x : Int} (hy₀ : 0 ≤ y) (hy : y < 72057594037927936) (hx₀ : 0 ≤ x) (hx : x % 72057594037927936 = 0) (hx₁ : x < 18446744073709551616) : bits .or .u64 y x = y + x := or_u64 56 y x hy₀ hy (by omega) hx₀ hx hx₁

theorem hd_bytes {xs : List Int} (h : Id20 xs) : hd (bv xs) = xs.getD 7 0 + xs.getD 6 0 * 256 + xs.getD 5 0 * 65536 + xs.getD 4 0 * 16777216 + xs.getD 3 0 * 4294967296 + xs.getD 2 0 * 1099511627776 + xs.getD 1 0 * 281474976710656 + xs.getD 0 0 * 72057594037927936 := by
  have hh := h.head
  unfold hd
  rw [← hh]
  have hl := h.1
  match xs, hl with
  | a0 :: a1 :: a2 :: a3 :: a4 :: a5 :: a6 :: a7 :: r, _ => simp [bv]; omega

theorem uint64_any (g : Nat) (xs : List Int) (c : Nat) (w : World) (h : Has w g xs) :
    Calls Try.prog 35 #[.agg #[], .slice (some ⟨g, 0, none⟩) 8 c] w fun e w' => e = .returned (.int .u64 (hd (bv xs))) ∧ Below w.heap.size w w' := by
  have h' := h.alloc (.cells #[] 74)
  have hv := hd_bytes h.id
  have c0 := h'.cell 0 (by omega)
  have c1 := h'.cell 1 (by omega)
  have c2 := h'.cell 2 (by omega)
  have c3 := h'.cell 3 (by omega)
  have c4 := h'.cell 4 (by omega)
  have c5 := h'.cell 5 (by omega)
  have c6 := h'.cell 6 (by omega)
  have c7 := h'.cell 7 (by omega)
  have b0 := h.id.2.getD 0
  have b1 := h.id.2.getD 1
  have b2 := h.id.2.getD 2
  have b3 := h.id.2.getD 3
  have b4 := h.id.2.getD 4
  have b5 := h.id.2.getD 5
  have b6 := h.id.2.getD 6
  have b7 := h.id.2.getD 7
  rw [hv]
  clear hv h h'
  generalize xs.getD 0 0 = x0 at *
  generalize xs.getD 1 0 = x1 at *
  generalize xs.getD 2 0 = x2 at *
  generalize xs.getD 3 0 = x3 at *
  generalize xs.getD 4 0 = x4 at *
  generalize xs.getD 5 0 = x5 at *
  generalize xs.getD 6 0 = x6 at *
  generalize xs.getD 7 0 = x7 at *
  obtain ⟨b00, b01⟩ := b0
  obtain ⟨b10, b11⟩ := b1
  obtain ⟨b20, b21⟩ := b2
  obtain ⟨b30, b31⟩ := b3
  obtain ⟨b40, b41⟩ := b4
  obtain ⟨b50, b51⟩ := b5
  obtain ⟨b60, b61⟩ := b6
  obtain ⟨b70, b71⟩ := b7
  go_enter Try.func35, Try.ntmps35
  go_wp2
  go_quiet (fail)
  go_wp2
  go_ret
  refine ⟨?_, ((Below.refl _ w).alloc (Nat.le_refl _) _).trans ⟨rfl, rfl, rfl, Nat.le_refl _, fun _ _ => rfl⟩⟩
  simp (disch := omega) only [or8, or16, or24, or32, or40, or48, or56]
  rfl
end Go.Proofs.Qxb6001692a
