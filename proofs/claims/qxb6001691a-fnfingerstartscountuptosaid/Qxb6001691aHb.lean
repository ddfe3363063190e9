import Derived.Test.Qxb6001691aRows
import Derived.Test.Qxb6001691aPlain
import Derived.WalkKit
import Derived.ProofKit
namespace Go.Proofs.Qxb6001691a
open Go.ChangeShapes Go.WideShapes Go.ChangeAt Go.RowKit

theorem headBetween_any (x lo hi : Int) (w : World) :
    Calls Try.prog 32 #[.int .u64 x, .int .u64 lo, .int .u64 hi] w fun e w' => e = .returned (.bool (hb x lo hi)) ∧ w' = w := by
  by_cases h1 : lo < hi <;> by_cases h2 : lo < x <;> by_cases h3 : x < hi <;>
    (go_enter Try.func32, Try.ntmps32
     go_wp2
     go_ret
     exact ⟨by simp [hb, h1, h2, h3], rfl⟩)
theorem zzHeadBetween_any (x lo hi : Int) (w : World) :
    Calls Try.prog 10 #[.int .u64 x, .int .u64 lo, .int .u64 hi] w fun e w' => e = .returned (.bool (hb x lo hi)) ∧ w' = w := by
  go_enter Try.func10, Try.ntmps10
  go_wp2_with (go_at_call 32; refine (headBetween_any _ _ _ _).mono ?_; rintro e w' ⟨rfl, rfl⟩)
  go_ret
  exact ⟨rfl, rfl⟩
end Go.Proofs.Qxb6001691a
