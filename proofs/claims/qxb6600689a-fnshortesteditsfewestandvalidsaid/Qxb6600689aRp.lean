import Derived.Test.Qxb6600689aLcs
namespace Go.Proofs.Qxb6600689a
open Go.ChangeShapes Go.WideShapes Go.ChangeAt Go.RowKit
set_option linter.unusedVariables false

theorem drop_cons {zs : List Int} {i : Nat} (h : i < zs.length) : zs.drop i = zs.getD i 0 :: zs.drop (i + 1) := by
  rw [List.drop_eq_getElem_cons h, List.getD_eq_getElem?_getD, List.getElem?_eq_getElem h]; rfl
theorem qq_eq {A B : List Int} {x y : Nat} (h : qq A B x y = true) : A.getD x 0 = B.getD y 0 := by
  simp only [qq, Bool.and_eq_true, decide_eq_true_eq] at h; exact h.2.2

set_option maxRecDepth 100000 in
set_option maxHeartbeats 2000000 in
theorem replay_any (ge ce : Nat) (a b : Option Addr) (E A B : List Int) (c d D : Nat) (w : World) (hE : ∀ i, i < E.length → w.cell? ⟨ge, i, none⟩ = some (.int .u8 (E.getD i 0))) (hEl : E.length ≤ 16384) (ha : In w w.heap.size a A) (hb : In w w.heap.size b B) (hA : A.length ≤ 8192) (hB : B.length ≤ 8192) (hD : D ≤ 16384)
    (hok : Ok (qq A B) A.length B.length E 0 0 D) :
    Calls Try.prog 10 #[.slice (some ⟨ge, 0, none⟩) E.length ce, .slice a A.length c, .slice b B.length d] w fun e w' => e = .returned (.tuple #[.int .i64 (D : Int), .bool true]) ∧ Below w.heap.size w w' := by
  go_enter Try.func10, Try.ntmps10
  go_wp2
  go_loopw [8, 9, 10, 11] (fun vx vy vc vi wr => ∃ (i x y ch k : Nat), i ≤ E.length ∧ ch + k = D ∧ vx = .int .i64 (x : Int) ∧ vy = .int .i64 (y : Int) ∧ vc = .int .i64 (ch : Int) ∧ vi = .int .i64 (i : Int) ∧ Ok (qq A B) A.length B.length (E.drop i) x y k ∧ ∃ nd, wr = w.drewN nd) (fun _ _ _ i _ => (E.length - intOf i).toNat)
  case atStart => exact ⟨0, 0, 0, 0, D, by omega, by omega, rfl, rfl, rfl, rfl, hok, 0, rfl⟩
  case round =>
    obtain ⟨i, x, y, ch, k, hi, hck, rfl, rfl, rfl, rfl, hok', nd, rfl⟩ := hrel
    clear hok
    by_cases hlt : i < E.length
    · have hc := hE i hlt
      rw [drop_cons hlt] at hok'
      rcases hok' with ⟨he, hq, hok'⟩ | ⟨he, hx, k', rfl, hok'⟩ | ⟨he, hy, k', rfl, hok'⟩
      · rw [he] at hc
        clear he
        have hxy := qq_in A B x y hq
        have hAB := qq_eq hq
        obtain ⟨ga, hpa, hga, hac⟩ := ha x hxy.1
        obtain ⟨gb, hpb, hgb, hbc⟩ := hb y hxy.2
        rw [hAB] at hac
        obtain ⟨z, hz⟩ : ∃ z, B.getD y 0 = z := ⟨_, rfl⟩
        rw [hz] at hac hbc
        obtain ⟨hx, hy⟩ := hxy
        clear hz hAB hq hE
        subst hpa hpb
        have hx' : (x : Int) < (A.length : Int) := by omega
        have hy' : (y : Int) < (B.length : Int) := by omega
        go_wp2
        go_quiet (fail)
        go_wp2
        go_roundw
        case rel => exact ⟨i + 1, x + 1, y + 1, ch, k, by omega, by omega, by go_num, by go_num, by go_num, by go_num, hok', _, rfl⟩
        case measure => simp [intOf]; omega
      · rw [he] at hc
        clear he hE
        go_wp2
        go_roundw
        case rel => exact ⟨i + 1, x + 1, y, ch + 1, k', by omega, by omega, by go_num, by go_num, by go_num, by go_num, hok', _, rfl⟩
        case measure => simp [intOf]; omega
      · rw [he] at hc
        clear he hE
        go_wp2
        go_roundw
        case rel => exact ⟨i + 1, x, y + 1, ch + 1, k', by omega, by omega, by go_num, by go_num, by go_num, by go_num, hok', _, rfl⟩
        case measure => simp [intOf]; omega
    · have hke : i = E.length := by omega
      subst hke
      rw [List.drop_length] at hok'
      obtain ⟨rfl, rfl, rfl⟩ := hok'
      obtain rfl : ch = D := by omega
      go_wp2
      go_ret2
      exact ⟨rfl, Below.drewN' _ _ _⟩
end Go.Proofs.Qxb6600689a
