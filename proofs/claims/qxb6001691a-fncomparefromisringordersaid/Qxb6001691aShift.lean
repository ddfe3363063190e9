import Derived.Test.Qxb6001691aEq
namespace Go.Proofs.Qxb6001691a
open Go.ChangeShapes Go.WideShapes Go.ChangeAt Go.RowKit
set_option linter.unusedVariables false

theorem zzcf_shift (fs xs ys sf sx sy : List Int) (k : Nat) (kf : Id20 sf) (kx : Id20 sx) (ky : Id20 sy)
    (h1 : Hid (bv sf = (bv fs + 2 ^ k) % 1461501637330902918203684832716283019655932542976)) (h2 : Hid (bv sx = (bv xs + 2 ^ k) % 1461501637330902918203684832716283019655932542976)) (h3 : Hid (bv sy = (bv ys + 2 ^ k) % 1461501637330902918203684832716283019655932542976)) (w : World) :
    Calls Try.prog 14 #[.agg (idc sf), .agg (idc sx), .agg (idc sy)] w fun e w' => e = .returned (.int .i64 (sgn (dst (bv fs) (bv xs)) (dst (bv fs) (bv ys)))) ∧ Below w.heap.size w w' := by
  have := zzCompareFrom_any sf sx sy kf kx ky w
  rw [h1.out, h2.out, h3.out, dst_shift, dst_shift] at this
  exact this

end Go.Proofs.Qxb6001691a
