import Derived.Test.Qxb6001692aDoorShelf
import Derived.Test.Qxb6001692aDoorPlain
import Derived.Lib.AppendIntMem
import Derived.Lib.AtoiErrMem
import Derived.Lib.Strings
import Derived.WalkKit
import Derived.ProofKit
import Derived.Lib.ItoaLen
import Derived.ChangeOld
import Derived.Below
namespace Go.Proofs.Qxb6001692aDoor
open Go.ChangeShapes Go.WideShapes Go.ChangeAt Go.RowKit Go.Sort
set_option linter.unusedVariables false

theorem pre_app (p t : List UInt8) : Lib.hasPrefix (p ++ t) p = true := by
  unfold Lib.hasPrefix
  rw [List.isPrefixOf_iff_prefix]
  exact List.prefix_append p t
theorem trim_app (p t : List UInt8) : Lib.trimPrefix (p ++ t) p = t := by
  unfold Lib.trimPrefix
  rw [if_pos (pre_app p t), List.drop_left]
/-- The name. -/
def nm (p : ByteArray) (n : Int) : ByteArray := p ++ ⟨(Lib.itoa n).toArray⟩
theorem nm_list (p : ByteArray) (n : Int) : (nm p n).data.toList = p.data.toList ++ Lib.itoa n := by
  unfold nm
  simp [ByteArray.data_append]

set_option maxRecDepth 100000 in
theorem nameOf_any (p : ByteArray) (n : Int) (h0 : -9223372036854775808 ≤ n) (h1 : n ≤ 9223372036854775807) (hp : p.size ≤ 65536) (w : World) (htab : Lib.TabIs Tryd.prog w "internal/strconv.uint64pow10" .u64 Lib.pow10Tab) :
    Calls Tryd.prog 8 #[.string p, .int .i64 n] w fun e w' => e = .returned (.string (nm p n)) ∧ Below w.heap.size w w' := by
  have hl := Lib.itoa_length_le n h0 h1
  have hno : ¬ 9223372036854775807 < p.size + (Lib.itoa n).length := by omega
  go_enter Tryd.func8, Tryd.ntmps8
  go_wp2_with (go_at_call 11; refine (Tryd.strconv_Itoa n h0 h1 _ htab).mono ?_; rintro e w' ⟨rfl, k, os, rfl⟩)
  go_ret
  exact ⟨rfl, Lib.below_grow _ w (Nat.le_refl _) k os⟩
set_option maxRecDepth 100000 in
theorem zzNameOf_any (p : ByteArray) (n : Int) (h0 : -9223372036854775808 ≤ n) (h1 : n ≤ 9223372036854775807) (hp : p.size ≤ 65536) (w : World) (htab : Lib.TabIs Tryd.prog w "internal/strconv.uint64pow10" .u64 Lib.pow10Tab) :
    Calls Tryd.prog 6 #[.string p, .int .i64 n] w fun e w' => e = .returned (.string (nm p n)) ∧ Below w.heap.size w w' := by
  go_enter Tryd.func6, Tryd.ntmps6
  go_wp2_with (go_at_call 8; refine (nameOf_any p n h0 h1 hp _ htab).mono ?_; rintro e w' ⟨rfl, hb⟩)
  go_ret
  exact ⟨rfl, hb⟩
theorem cut_any (p : ByteArray) (n : Int) (w : World) :
    Calls Tryd.prog 9 #[.string (nm p n), .string p] w fun e w' => e = .returned (.tuple #[.string ⟨(Lib.itoa n).toArray⟩, .bool true]) ∧ w' = w := by
  have := Tryd.strings_CutPrefix (nm p n) p w
  rw [nm_list, trim_app, pre_app] at this
  exact this
theorem atoi_any (n : Int) (h0 : -9223372036854775808 ≤ n) (h1 : n ≤ 9223372036854775807) (w : World) :
    Calls Tryd.prog 10 #[.string ⟨(Lib.itoa n).toArray⟩] w fun e w' => e = .returned (.tuple #[.int .i64 n, .nilIface]) ∧ Below w.heap.size w w' := by
  have hl := Lib.itoa_length_le n h0 h1
  refine (Tryd.strconv_Atoi_ok ⟨(Lib.itoa n).toArray⟩ (by show (Lib.itoa n).toArray.size ≤ _; simp; omega) n (by simpa using atoi_itoa n h0 h1) w).mono ?_
  rintro e w' ⟨he, hw⟩
  refine ⟨he, ?_⟩
  rcases hw with rfl | ⟨t, rfl⟩
  · exact Below.refl _ _
  · exact Lib.bytesWorld_below w 5 t
set_option maxRecDepth 100000 in
theorem seqOf_any (p : ByteArray) (n : Int) (h0 : -9223372036854775808 ≤ n) (h1 : n ≤ 9223372036854775807) (w : World) :
    Calls Tryd.prog 7 #[.string (nm p n), .string p] w fun e w' => e = .returned (.tuple #[.int .i64 n, .bool (decide (0 < n))]) ∧ Below w.heap.size w w' := by
  go_enter Tryd.func7, Tryd.ntmps7
  go_wp2_with (first
    | (go_at_call 9; refine (cut_any p n _).mono ?_; rintro e w ⟨rfl, rfl⟩)
    | (go_at_call 10; refine (atoi_any n h0 h1 _).mono ?_; rintro e w' ⟨rfl, hb⟩))
  go_ret2
  exact ⟨rfl, hb⟩
set_option maxRecDepth 100000 in
theorem zzSeqOf_any (p : ByteArray) (n : Int) (h0 : -9223372036854775808 ≤ n) (h1 : n ≤ 9223372036854775807) (w : World) :
    Calls Tryd.prog 5 #[.string (nm p n), .string p] w fun e w' => e = .returned (.tuple #[.int .i64 n, .bool (decide (0 < n))]) ∧ Below w.heap.size w w' := by
  go_enter Tryd.func5, Tryd.ntmps5
  go_wp2_with (go_at_call 7; refine (seqOf_any p n h0 h1 _).mono ?_; rintro e w' ⟨rfl, hb⟩)
  go_ret2
  exact ⟨rfl, hb⟩
/-- A bool was returned. -/
def IsB (e : Ending) : Prop := ∃ z, e = .returned (.bool z)
set_option maxRecDepth 100000 in
theorem zzBytes_any (p : ByteArray) (n : Int) (w : World) :
    Calls Tryd.prog 4 #[.string p, .int .i64 n] w fun e w' => IsB e ∧ w' = w := by
  go_enter Tryd.func4, Tryd.ntmps4
  go_wp2
  all_goals (go_ret; exact ⟨⟨_, rfl⟩, rfl⟩)
set_option maxRecDepth 100000 in
theorem law_any (p : ByteArray) (n : Int) (h0 : -9223372036854775808 ≤ n) (h1 : n ≤ 9223372036854775807) (w : World) (htab : Lib.TabIs Tryd.prog w "internal/strconv.uint64pow10" .u64 Lib.pow10Tab) :
    Calls Tryd.prog 3 #[.string p, .int .i64 n] w fun e w' => e = .returned (.bool true) ∧ Below w.heap.size w w' := by
  by_cases hp : p.size ≤ 65536
  · have hp' : ¬ (65536 : Int) < (p.size : Int) := by omega
    by_cases hn : 0 < n
    · go_enter Tryd.func3, Tryd.ntmps3
      go_wp2_with (first
        | (go_at_call 4; refine (zzBytes_any p n _).mono ?_; rintro e w ⟨⟨z, rfl⟩, rfl⟩)
        | (go_at_call 6; refine (zzNameOf_any p n h0 h1 hp _ htab).mono ?_; rintro e w1 ⟨rfl, hb1⟩)
        | (go_at_call 5; refine (zzSeqOf_any p n h0 h1 _).mono ?_; rintro e w2 ⟨rfl, hb2⟩))
      all_goals first
        | (go_ret; exact ⟨rfl, Below.refl _ _⟩)
        | (go_ret; exact ⟨rfl, hb1.trans (hb2.mono hb1.size)⟩)
    · have hn' : n ≤ 0 := by omega
      go_enter Tryd.func3, Tryd.ntmps3
      go_wp2_with (first
        | (go_at_call 4; refine (zzBytes_any p n _).mono ?_; rintro e w ⟨⟨z, rfl⟩, rfl⟩)
        | (go_at_call 6; refine (zzNameOf_any p n h0 h1 hp _ htab).mono ?_; rintro e w1 ⟨rfl, hb1⟩)
        | (go_at_call 5; refine (zzSeqOf_any p n h0 h1 _).mono ?_; rintro e w2 ⟨rfl, hb2⟩))
      all_goals first
        | (go_ret; exact ⟨rfl, Below.refl _ _⟩)
        | (go_ret; exact ⟨(by show Ending.returned (.bool (!decide (0 < n))) = _; rw [decide_eq_false (show ¬ 0 < n by omega)]; rfl), hb1.trans (hb2.mono hb1.size)⟩)
  · have hp' : (65536 : Int) < (p.size : Int) := by omega
    go_enter Tryd.func3, Tryd.ntmps3
    go_wp2_with (first
      | (go_at_call 4; refine (zzBytes_any p n _).mono ?_; rintro e w ⟨⟨z, rfl⟩, rfl⟩))
    all_goals (go_ret; exact ⟨rfl, Below.refl _ _⟩)
end Go.Proofs.Qxb6001692aDoor
