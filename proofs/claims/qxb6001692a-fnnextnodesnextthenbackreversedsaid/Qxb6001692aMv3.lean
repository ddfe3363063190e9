import Derived.Test.Qxb6001692aMv2
namespace Go.Proofs.Qxb6001692a
open Go.ChangeShapes Go.WideShapes Go.ChangeAt Go.RowKit
set_option linter.unusedVariables false

theorem movedOn_any (P Q I A U : List Int) (hP : Id20 P) (hQ : Id20 Q) (hI : Id20 I) (hA : Id20 A) (hU : Id20 U) (k : Bool) (gi : Nat) (w : World) (hgi : Blk w gi (inc A U)) :
    Calls Try.prog 26 #[.pointer (some ⟨gi, 0, none⟩), .agg (plc P Q k).toArray, .agg (idc I)] w fun e w' => e = .returned (.bool (mvB k (bv A) (bv U) (bv P) (bv I))) ∧ Below w.heap.size w w' := by
  cases k with
  | false =>
    have : mvB false (bv A) (bv U) (bv P) (bv I) = false := by simp [mvB]
    rw [this]; exact movedOn_unknown P Q I hP hQ hI gi w
  | true =>
    by_cases h : dst (bv A) (bv P) < dst (bv A) (bv U)
    · have : mvB true (bv A) (bv U) (bv P) (bv I) = decide (dst (bv A) (bv I) ≤ dst (bv A) (bv P)) := by simp [mvB, h]
      rw [this]; exact movedOn_in P Q I A U hP hQ hI hA hU gi w hgi (by simpa using h)
    · have : mvB true (bv A) (bv U) (bv P) (bv I) = false := by simp [mvB, h]
      rw [this]; exact movedOn_out P Q I A U hP hQ hI hA hU gi w hgi (by simpa using h)

set_option maxHeartbeats 1000000 in
theorem zzMovedOnNil_any (P Q I : List Int) (hP : Id20 P) (hQ : Id20 Q) (hI : Id20 I) (k : Bool) (w : World) :
    Calls Try.prog 12 #[.bool k, .agg (idc P), .agg (idc Q), .agg (idc I)] w fun e w' => e = .returned (.bool false) ∧ Below w.heap.size w w' := by
  go_enter Try.func12, Try.ntmps12
  go_wp2_with (first
    | (refine wpl_box rfl _ rfl _ rfl (by assumption) ?_; intro g w' hs hb hl; simp only [Act.put, List.setIfInBounds_toArray, List.set_cons_zero, List.set_cons_succ])
    | (refine wpl_load26 rfl _ rfl _ rfl ?_ ?_ ?_; rotate_left; (focus ((repeat (first | assumption | (apply Has.via; focus assumption))); done)); simp only [Act.put, List.setIfInBounds_toArray, List.set_cons_zero, List.set_cons_succ])
    | (refine wpl_val rfl _ (run_build rfl ?_ (build56 hP.1 hQ.1 _)) ?_; (focus (simp [Act.eval]; done)); simp only [Act.put, List.setIfInBounds_toArray, List.set_cons_zero, List.set_cons_succ])
    | (refine wpl_val rfl _ (run_build rfl ?_ (build58 hP.1 hQ.1 k _)) ?_; (focus (simp [Act.eval]; done)); simp only [Act.put, List.setIfInBounds_toArray, List.set_cons_zero, List.set_cons_succ])
    | (go_at_call 26; refine (movedOn_nil P Q I hP hQ hI k _).mono ?_; rintro e w' ⟨rfl, hb'⟩))
  go_ret
  refine ⟨rfl, ?_⟩
  repeat (first | assumption | (apply Below.via; focus assumption))

set_option maxHeartbeats 2000000 in
theorem zzMovedOn_any (A U P Q I : List Int) (hA : Id20 A) (hU : Id20 U) (k : Bool) (hP : Id20 P) (hQ : Id20 Q) (hI : Id20 I) (w : World) :
    Calls Try.prog 13 #[.agg (idc A), .agg (idc U), .bool k, .agg (idc P), .agg (idc Q), .agg (idc I)] w fun e w' => e = .returned (.bool (mvB k (bv A) (bv U) (bv P) (bv I))) ∧ Below w.heap.size w w' := by
  have tok : True := trivial
  go_enter Try.func13, Try.ntmps13
  go_wp2_with (first
    | (refine wpl_load26 rfl _ rfl _ rfl ?_ ?_ ?_; rotate_left; (focus ((repeat (first | assumption | (apply Has.via; focus assumption))); done)); simp only [Act.put, List.setIfInBounds_toArray, List.set_cons_zero, List.set_cons_succ])
    | (have _t := tok; refine wpl_boxL rfl _ rfl (inc A U) rfl ?_; intro gi wi hi hbi hli; clear tok _t; simp only [Act.put, List.setIfInBounds_toArray, List.set_cons_zero, List.set_cons_succ])
    | (refine wpl_box rfl _ rfl _ rfl (by assumption) ?_; intro g w' hs hb hl; simp only [Act.put, List.setIfInBounds_toArray, List.set_cons_zero, List.set_cons_succ])
    | (refine wpl_val rfl _ (run_build rfl ?_ (build56 hA.1 hU.1 _)) ?_; (focus (simp [Act.eval]; done)); simp only [Act.put, List.setIfInBounds_toArray, List.set_cons_zero, List.set_cons_succ])
    | (refine wpl_val rfl _ (run_build rfl ?_ (build56 hP.1 hQ.1 _)) ?_; (focus (simp [Act.eval]; done)); simp only [Act.put, List.setIfInBounds_toArray, List.set_cons_zero, List.set_cons_succ])
    | (refine wpl_val rfl _ (run_build rfl ?_ (build61 hA.1 hU.1 _)) ?_; (focus (simp [Act.eval]; done)); simp only [Act.put, List.setIfInBounds_toArray, List.set_cons_zero, List.set_cons_succ])
    | (refine wpl_val rfl _ (run_build rfl ?_ (build58 hP.1 hQ.1 k _)) ?_; (focus (simp [Act.eval]; done)); simp only [Act.put, List.setIfInBounds_toArray, List.set_cons_zero, List.set_cons_succ])
    | (go_at_call 26; refine (movedOn_any P Q I A U hP hQ hI hA hU k gi _ hi).mono ?_; rintro e w' ⟨rfl, hb'⟩))
  go_ret
  refine ⟨rfl, ?_⟩
  repeat (first | assumption | (apply Below.via; focus assumption))
end Go.Proofs.Qxb6001692a
