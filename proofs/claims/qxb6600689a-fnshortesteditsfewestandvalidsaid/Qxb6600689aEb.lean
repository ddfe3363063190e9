import Derived.Test.Qxb6600689aRp
namespace Go.Proofs.Qxb6600689a
open Go.ChangeShapes Go.WideShapes Go.ChangeAt Go.RowKit
set_option linter.unusedVariables false

set_option maxRecDepth 100000 in
set_option maxHeartbeats 1000000 in
theorem eb_nil (w : World) : Calls Try.prog 14 #[.slice none 0 0] w fun e w' => e = .returned (.slice none 0 0) ∧ w' = w := by
  have heq : (binOp .eql 32 (.slice none 0 0) (.slice none 0 0)).run Try.prog w = .ok (.bool true) w := by simp only [binOp]; simp [run_equal_slice_nil w 32 38 none 0 0 Try.underlying32]
  go_enter Try.func14, Try.ntmps14
  go_wp2
  go_ret
  exact ⟨rfl, rfl⟩

set_option maxRecDepth 100000 in
set_option maxHeartbeats 1000000 in
theorem eb_some (ge : Nat) (zs : List Int) (c : Nat) (w : World) (hge : ge < w.heap.size) (hp : ∀ i, i < zs.length → w.cell? ⟨ge, i, none⟩ = some (.int .u8 (zs.getD i 0))) (hlen : zs.length ≤ 16384) :
    Calls Try.prog 14 #[.slice (some ⟨ge, 0, none⟩) zs.length c] w fun e w' => ∃ g, e = .returned (.slice (some ⟨g, 0, none⟩) zs.length zs.length) ∧ Below w.heap.size w w' ∧ Blk w' g (yv zs) := by
    have heq : (binOp .eql 32 (.slice (some ⟨ge, 0, none⟩) zs.length c) (.slice none 0 0)).run Try.prog w = .ok (.bool false) w := by simp only [binOp]; simp [run_equal_slice_nil w 32 38 (some ⟨ge, 0, none⟩) zs.length c Try.underlying32]
    go_enter Try.func14, Try.ntmps14
    go_wp2_with (first
      | (refine wpl_make5 rfl rfl zs.length _ rfl rfl rfl (by omega) ?_; intro g w1 hs hb hl; simp only [Act.put, List.setIfInBounds_toArray, List.set_cons_zero, List.set_cons_succ]))
    go_loopw [4] (fun i wr => ∃ k : Nat, k ≤ zs.length ∧ i = .int .i64 (k : Int) ∧ Blk wr g (yv (fl zs k)) ∧ Below w.heap.size w wr) (fun i _ => (zs.length - intOf i).toNat)
    case atStart => exact ⟨0, by omega, rfl, by rw [fl_zero]; exact hs, hb⟩
    case round =>
      obtain ⟨k, hk, rfl, hbk, hbe⟩ := hrel
      clear hs hb heq
      by_cases hlt : k < zs.length
      · have hpc := hp k hlt
        obtain ⟨s, hsk⟩ : ∃ s, zs.getD k 0 = s := ⟨_, rfl⟩
        have HK : Hid ((fl zs k).set k s = fl zs (k + 1)) := by rw [← hsk]; exact fl_set zs k hlt
        rw [hsk] at hpc
        have hpc' := (hbe.cell (p := ⟨ge, k, none⟩) hge).trans hpc
        clear hsk hpc
        go_wp2_with (first
          | (refine wpl_storeI size5 rfl rfl rfl rfl hbk (by rw [yv_length, fl_length zs k (by omega)]; omega) ?_; intro w5 hs5 hb5 hk5; simp only [Act.put]))
        go_roundw
        case rel => exact ⟨k + 1, by omega, by go_num, by rw [← HK.out, ← yv_set]; exact hs5, hbe.trans (hb5 _ hl)⟩
        case measure => simp [intOf]; omega
      · have hke : k = zs.length := by omega
        subst hke
        go_wp2
        go_ret
        exact ⟨_, rfl, hbe, (by rw [fl_all] at hbk; exact hbk)⟩

set_option maxRecDepth 100000 in
set_option maxHeartbeats 1000000 in
theorem at_any (gb gd g : Nat) (zs : List Int) (c : Nat) (d k : Int) (w : World) (hb : w.cell? ⟨gb, 0, none⟩ = some (.slice (some ⟨g, 0, none⟩) zs.length c)) (hd : w.cell? ⟨gd, 0, none⟩ = some (.int .i64 d)) (hd1 : 0 ≤ d) (hd2 : d ≤ 16384) (hk1 : -16384 ≤ k) (hk2 : k ≤ 16384)
    (h0 : 0 ≤ k + d - 1) (h1 : k + d - 1 < zs.length) (hz : w.cell? ⟨g, (k + d - 1).toNat, none⟩ = some (.int .i64 (zs.getD (k + d - 1).toNat 0))) :
    Calls Try.prog 16 #[.int .i64 k, .pointer (some ⟨gb, 0, none⟩), .pointer (some ⟨gd, 0, none⟩)] w fun e w' => e = .returned (.int .i64 (zs.getD (k + d - 1).toNat 0)) ∧ w' = w := by
  obtain ⟨s, hsk⟩ : ∃ s, zs.getD (k + d - 1).toNat 0 = s := ⟨_, rfl⟩
  rw [hsk] at hz ⊢
  clear hsk
  rw [show (k + d - 1).toNat = (k + d).toNat - 1 by omega] at hz
  go_enter Try.func16, Try.ntmps16
  go_wp2
  go_ret
  exact ⟨rfl, rfl⟩
end Go.Proofs.Qxb6600689a
