import Derived.Test.Qxb6001692aSt
namespace Go.Proofs.Qxb6001692a
open Go.ChangeShapes Go.WideShapes Go.ChangeAt Go.RowKit
set_option linter.unusedVariables false

/-- A bool was returned. -/
def IsB (e : Ending) : Prop := ∃ z, e = .returned (.bool z)
set_option maxRecDepth 100000 in
set_option maxHeartbeats 1000000 in
theorem zzBytes_any (a b : Option Addr) (ss ts : List ByteArray) (c d : Nat) (w : World) (hs : SlS w a ss) (ht : SlS w b ts) (hm : ss.length ≤ maxLen) (hn : ts.length ≤ maxLen) :
    Calls Try.prog 14 #[.slice a ss.length c, .slice b ts.length d] w fun e w' => IsB e ∧ w' = w := by
  have hm' : ss.length ≤ 9223372036854775807 := by simp only [maxLen] at hm; omega
  have hn' : ts.length ≤ 9223372036854775807 := by simp only [maxLen] at hn; omega
  go_enter Try.func14, Try.ntmps14
  go_wp2
  all_goals first
    | (go_ret; exact ⟨⟨_, rfl⟩, rfl⟩)
    | skip
  go_loop [5, 6] (fun n i => ∃ (k : Nat) (z : Int), k ≤ ss.length ∧ i = .int .i64 (k : Int) ∧ n = .int .i64 z) (fun _ i => (ss.length - intOf i).toNat)
  case atStart => exact ⟨0, _, by omega, rfl, rfl⟩
  case round =>
    obtain ⟨k, z, hk, rfl, rfl⟩ := hrel
    by_cases hlt : k < ss.length
    · have hki : (k : Int) < (ss.length : Int) := by omega
      have hk0 : (0 : Int) ≤ (k : Int) := by omega
      obtain ⟨p, hpa, hpb, hpc⟩ := hs k hlt
      subst hpa
      obtain ⟨s, hsk⟩ : ∃ s, ss.getD k ByteArray.empty = s := ⟨_, rfl⟩
      rw [hsk] at hpc
      clear hsk
      go_wp2_with (first
        | (refine wpl_val rfl (.pointer (some (p.add k))) ((run_index Try.underlying33 size9 rfl rfl rfl hk0 hki).trans (by rw [Nat.mul_one]; rfl)) ?_; simp only [Act.put, List.setIfInBounds_toArray, List.set_cons_zero, List.set_cons_succ])
        | (refine wpl_val rfl _ (run_load9 rfl rfl hpc) ?_; simp only [Act.put, List.setIfInBounds_toArray, List.set_cons_zero, List.set_cons_succ]))
      all_goals first
        | (go_ret; exact ⟨⟨_, rfl⟩, rfl⟩)
        | (go_round
           case rel => exact ⟨k + 1, _, by omega, by go_num, rfl⟩
           case measure => simp [intOf]; omega)
    · have hke : k = ss.length := by omega
      subst hke
      go_wp2
      all_goals first
        | (go_ret; exact ⟨⟨_, rfl⟩, rfl⟩)
        | skip
      go_loop [5, 7] (fun n i => ∃ (k : Nat) (z : Int), k ≤ ts.length ∧ i = .int .i64 (k : Int) ∧ n = .int .i64 z) (fun _ i => (ts.length - intOf i).toNat)
      case atStart => exact ⟨0, _, by omega, rfl, rfl⟩
      case round =>
        obtain ⟨k, z, hk, rfl, rfl⟩ := hrel
        by_cases hlt : k < ts.length
        · have hki : (k : Int) < (ts.length : Int) := by omega
          have hk0 : (0 : Int) ≤ (k : Int) := by omega
          obtain ⟨p, hpa, hpb, hpc⟩ := ht k hlt
          subst hpa
          obtain ⟨s, hsk⟩ : ∃ s, ts.getD k ByteArray.empty = s := ⟨_, rfl⟩
          rw [hsk] at hpc
          clear hsk
          go_wp2_with (first
            | (refine wpl_val rfl (.pointer (some (p.add k))) ((run_index Try.underlying33 size9 rfl rfl rfl hk0 hki).trans (by rw [Nat.mul_one]; rfl)) ?_; simp only [Act.put, List.setIfInBounds_toArray, List.set_cons_zero, List.set_cons_succ])
            | (refine wpl_val rfl _ (run_load9 rfl rfl hpc) ?_; simp only [Act.put, List.setIfInBounds_toArray, List.set_cons_zero, List.set_cons_succ]))
          all_goals first
            | (go_ret; exact ⟨⟨_, rfl⟩, rfl⟩)
            | (go_round
               case rel => exact ⟨k + 1, _, by omega, by go_num, rfl⟩
               case measure => simp [intOf]; omega)
        · have hke : k = ts.length := by omega
          subst hke
          go_wp2
          go_ret
          exact ⟨⟨_, rfl⟩, rfl⟩
end Go.Proofs.Qxb6001692a
