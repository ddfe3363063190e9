import Derived.Test.Qxb6001692aRows
import Derived.Test.Qxb6001692aPlain
import Derived.WalkKit
import Derived.ProofKit
namespace Go.Proofs.Qxb6001692a
open Go.ChangeShapes Go.WideShapes Go.ChangeAt Go.RowKit

theorem headBetween_any (x lo hi : Int) (w : World) :
    Calls Try.prog 31 #[.int .u64 x, .int .u64 lo, .int .u64 hi] w fun e w' => e = .returned (.bool (hb x lo hi)) ∧ w' = w := by
  by_cases h1 : lo < hi <;> by_cases h2 : lo < x <;> by_cases h3 : x < hi <;>
    (go_enter Try.func31, Try.ntmps31
     go_wp2
     go_ret
     exact ⟨by simp [hb, h1, h2, h3], rfl⟩)
end Go.Proofs.Qxb6001692a
