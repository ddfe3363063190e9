import Derived.Test.Qxb6001692aHead
import Derived.Deep.RegionWith
namespace Go.Proofs.Qxb6001692a
open Go.ChangeShapes Go.WideShapes Go.ChangeAt Go.RowKit

theorem head_any (g : Nat) (xs : List Int) (w : World) (h : Has w g xs) :
    Calls Try.prog 30 #[.pointer (some ⟨g, 0, none⟩)] w fun e w' => e = .returned (.int .u64 (hd (bv xs))) ∧ Below w.heap.size w w' := by
  have hu := uint64_any g xs 20 w.drew h
  go_enter Try.func30, Try.ntmps30
  go_wp2
  go_region_with (go_at_call 35; refine hu.mono ?_; rintro e w' ⟨rfl, hb'⟩)
  go_wp2
  go_ret
  exact ⟨rfl, hb'.os, hb'.tape, hb'.output, hb'.size, hb'.block⟩

/-! ### bytes.Compare: the model's entry, over identifiers -/
theorem get_bytes (l : List UInt8) (i : Nat) : (⟨l.toArray⟩ : ByteArray)[i]! = l.getD i 0 := by
  by_cases h : i < l.length
  · rw [getElem!_pos (⟨l.toArray⟩ : ByteArray) i (by simpa [ByteArray.size] using h)]
    simp [List.getD_eq_getElem?_getD, h]
    rfl
  · rw [getElem!_neg (⟨l.toArray⟩ : ByteArray) i (by simpa [ByteArray.size] using h)]
    simp [List.getD_eq_getElem?_getD, List.getElem?_eq_none (Nat.le_of_not_lt h)]
    rfl

/-- The model's order of two rows of bytes, where they are of one length. -/
def ordOf (a b : List UInt8) : Option Nat → Int
  | some i => if a.getD i 0 < b.getD i 0 then -1 else 1
  | none => 0
def cmpB : List UInt8 → List UInt8 → Int
  | x :: xs, y :: ys => if x < y then -1 else if y < x then 1 else cmpB xs ys
  | _, _ => 0
theorem ordOf_find : ∀ (a b : List UInt8), a.length = b.length → ordOf a b ((List.range a.length).find? fun i => a.getD i 0 != b.getD i 0) = cmpB a b
  | [], [], _ => by simp [ordOf, cmpB]
  | x :: a, y :: b, hl => by
    have ih := ordOf_find a b (by simpa using hl)
    rw [List.length_cons, List.range_succ_eq_map, List.find?_cons]
    by_cases e : x = y
    · subst e
      have e0 : ((x :: a).getD 0 0 != (x :: b).getD 0 0) = false := by simp
      rw [e0]
      simp only [List.find?_map, cmpB]
      have nl : ¬ x < x := UInt8.lt_irrefl x
      rw [if_neg nl, if_neg nl, ← ih]
      have ef : ((fun i => (x :: a).getD i 0 != (x :: b).getD i 0) ∘ Nat.succ) = fun i => a.getD i 0 != b.getD i 0 := by
        funext i; simp
      rw [ef]
      cases (List.range a.length).find? fun i => a.getD i 0 != b.getD i 0 with
      | none => rfl
      | some i => simp [ordOf]
    · have e0 : ((x :: a).getD 0 0 != (y :: b).getD 0 0) = true := by simpa using e
      rw [e0]
      simp only [ordOf, cmpB, List.getD_cons_zero]
      by_cases h : x < y
      · rw [if_pos h, if_pos h]
      · have : y < x := by
          rcases UInt8.lt_or_lt_of_ne e with h' | h'
          · exact absurd h' h
          · exact h'
        rw [if_neg h, if_neg h, if_pos this]
  | [], _ :: _, hl => by simp at hl
  | _ :: _, [], hl => by simp at hl

theorem cmp_eq (a b : List UInt8) (hl : a.length = b.length) : Extern.BytealgCompare.cmp ⟨a.toArray⟩ ⟨b.toArray⟩ = cmpB a b := by
  rw [← ordOf_find a b hl]
  unfold Extern.BytealgCompare.cmp
  have s1 : (⟨a.toArray⟩ : ByteArray).size = a.length := by simp [ByteArray.size]
  have s2 : (⟨b.toArray⟩ : ByteArray).size = a.length := by simp [ByteArray.size, hl]
  simp only [s1, s2, Nat.min_self, get_bytes]
  cases (List.range a.length).find? fun i => a.getD i 0 != b.getD i 0 with
  | none => simp [ordOf]
  | some i => rfl

def u8s (xs : List Int) : List UInt8 := xs.map fun z => z.toNat.toUInt8
theorem u8_lt {x y : Int} (hx : 0 ≤ x ∧ x ≤ 255) (hy : 0 ≤ y ∧ y ≤ 255) : x.toNat.toUInt8 < y.toNat.toUInt8 ↔ x < y := by
  rw [UInt8.lt_iff_toNat_lt]
  have h1 : x.toNat.toUInt8.toNat = x.toNat := by simp; omega
  have h2 : y.toNat.toUInt8.toNat = y.toNat := by simp; omega
  rw [h1, h2]; omega
theorem cmpB_cmpL : ∀ (xs ys : List Int), xs.length = ys.length → Byt xs → Byt ys → cmpB (u8s xs) (u8s ys) = cmpL xs ys
  | [], [], _, _, _ => rfl
  | x :: xs, y :: ys, hl, hx, hy => by
    have ih := cmpB_cmpL xs ys (by simpa using hl) hx.tail hy.tail
    simp only [u8s, List.map_cons, cmpB, cmpL, u8_lt hx.head hy.head, u8_lt hy.head hx.head]
    rw [← ih]; rfl
  | [], _ :: _, hl, _, _ => by simp at hl
  | _ :: _, [], hl, _, _ => by simp at hl

theorem run_loadBytes {w : World} {g : Nat} {xs : List Int} (h : Has w g xs) : ∀ (n i : Nat), i + n = 20 → ∀ acc : ByteArray,
    (Extern.Bytes.loadBytes ⟨g, i, none⟩ n acc).run Try.prog w = .ok ⟨acc.data ++ (u8s (xs.drop i)).toArray⟩ w
  | 0, i, hi, acc => by
    have e : i = 20 := by omega
    subst e
    rw [List.drop_eq_nil_of_le (by rw [h.id.1]; exact Nat.le_refl _)]
    simp [Extern.Bytes.loadBytes, u8s]
  | n + 1, i, hi, acc => by
    have hc := h.cell i (by omega)
    have ih := run_loadBytes h n (i + 1) (by omega) (acc.push (xs.getD i 0).toNat.toUInt8)
    have hl : i < xs.length := by rw [h.id.1]; omega
    have ha : (⟨g, i, none⟩ : Addr).add 1 = ⟨g, i + 1, none⟩ := rfl
    simp only [Extern.Bytes.loadBytes, Sem.run_bind, run_load, hc, Result.andThen_ok, ha, ih]
    congr 2
    have eg : xs.getD i 0 = xs[i] := by simp [List.getD_eq_getElem?_getD, hl]
    rw [List.drop_eq_getElem_cons hl, eg]
    simp only [u8s, ByteArray.push, List.map_cons]
    apply Array.ext'
    simp
theorem run_bytesOf {w : World} {g c : Nat} {xs : List Int} (h : Has w g xs) : (Extern.Bytes.bytesOf (.slice (some ⟨g, 0, none⟩) 20 c)).run Try.prog w = .ok ⟨(u8s xs).toArray⟩ w := by
  have := run_loadBytes h 20 0 (by omega) .empty
  simp only [Extern.Bytes.bytesOf, this]
  simp
theorem run_compare {w : World} {g g' c c' : Nat} {xs ys : List Int} (h : Has w g xs) (h' : Has w g' ys) :
    (callFunc 37 #[.slice (some ⟨g, 0, none⟩) 20 c, .slice (some ⟨g', 0, none⟩) 20 c']).run Try.prog w = .ok (.value (.int .i64 (sgn (bv xs) (bv ys)))) w := by
  have hl : xs.length = ys.length := by rw [h.id.1, h'.id.1]
  rw [run_callFunc_extern Try.func37 (by kernel_rfl) (by kernel_rfl) (by kernel_rfl) (e := Extern.BytealgCompare.compare) (by kernel_rfl)]
  change (Sem.run Try.prog (do
    let a ← Extern.Bytes.bytesOf (.slice (some ⟨g, 0, none⟩) 20 c)
    let b ← Extern.Bytes.bytesOf (.slice (some ⟨g', 0, none⟩) 20 c')
    pure (goInt (Extern.BytealgCompare.cmp a b))) w).andThen _ = _
  simp only [Sem.run_bind, run_bytesOf h, run_bytesOf h', Result.andThen_ok, Sem.run_pure]
  rw [cmp_eq _ _ (by simp [u8s, hl]), cmpB_cmpL xs ys hl h.id.2 h'.id.2, cmpL_sgn hl h.id.2 h'.id.2]
  rfl
theorem bytesCompare_any (g g' c c' : Nat) (xs ys : List Int) (w : World) (h : Has w g xs) (h' : Has w g' ys) :
    Calls Try.prog 36 #[.slice (some ⟨g, 0, none⟩) 20 c, .slice (some ⟨g', 0, none⟩) 20 c'] w fun e w' => e = .returned (.int .i64 (sgn (bv xs) (bv ys))) ∧ w' = w := by
  have hr := run_compare (c := c) (c' := c') h h'
  go_enter Try.func36, Try.ntmps36
  go_wp2
  go_ret
  exact ⟨rfl, rfl⟩
end Go.Proofs.Qxb6001692a
