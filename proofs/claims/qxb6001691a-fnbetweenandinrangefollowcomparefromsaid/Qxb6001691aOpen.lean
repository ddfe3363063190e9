import Derived.Test.Qxb6001691aMem
import Derived.OpenShut
import Derived.ShutString
import Derived.ChangeOld
namespace Go.Proofs.Qxb6001691a
open Go.ChangeShapes Go.WideShapes Go.ChangeAt Go.RowKit

theorem own : ownKnob Try.prog.godebug = none := by kernel_rfl
theorem laidOut : laidOutB Try.prog = true := by kernel_rfl
theorem cells25 : Try.prog.cellsOf 25 = 20 := by kernel_rfl
theorem cells5 : Try.prog.cellsOf 5 = 1 := by kernel_rfl

theorem ints_of_cells : ∀ (cs : List Value), (∀ i, i < cs.length → ∃ n : Int, cs[i]? = some (.int .u8 n) ∧ (Lit.int .u8 n).wf = true) → ∃ xs : List Int, cs = xs.map (Value.int .u8) ∧ Byt xs
  | [], _ => ⟨[], rfl, fun _ h => by cases h⟩
  | c :: cs, h => by
    obtain ⟨n, hn, hw⟩ := h 0 (by simp)
    obtain ⟨xs, rfl, hb⟩ := ints_of_cells cs (fun i hi => by simpa using h (i + 1) (by simpa using hi))
    have hc : c = .int .u8 n := by simpa using hn
    exact ⟨n :: xs, by simp [hc], fun z hz => by
      rcases List.mem_cons.1 hz with h' | h'
      · subst h'; exact bounds_u8 hw
      · exact hb z h'⟩

/-- An argument of type [20]byte, opened. -/
theorem open_id {H : Type} {enc : TypeId × Value → H} {w : World} {base : Nat} {spare : Nat → Bool} {held : Bool} {r : Reach} {b0 : Nat} {v : Value} {d : DataW H} {p : List MemPlace}
    (hv : Value.okWide Try.prog w r b0 25 v) (h : DataW.Trod enc Try.prog w base spare held 25 v d p) : ∃ xs, Id20 xs ∧ v = .agg (idc xs) := by
  unfold Value.okWide at hv
  rw [Try.underlying25] at hv
  obtain ⟨cs, rfl, hsz, _⟩ := hv
  rw [cells25] at hsz
  obtain ⟨fuel, hf⟩ := h
  obtain ⟨ys, m, _, _, _, hl, hi⟩ := DataW.trod_array Try.underlying25 hf
  obtain ⟨xs, hxs, hb⟩ := ints_of_cells cs.toList (fun i hi' => by
    have hi20 : i < 20 := by rw [Array.length_toList, hsz] at hi'; exact hi'
    have := hi i hi20
    rw [cells5, Nat.mul_one] at this
    have hlt : i < ys.length := by rw [hl]; exact hi20
    rw [List.getElem?_eq_getElem hlt] at this
    have e1 : (List.drop i (Value.agg cs).cells.toList).take 1 = [cs.toList[i]] := by
      show (List.drop i cs.toList).take 1 = _
      rw [List.drop_eq_getElem_cons hi']; simp
    rw [e1] at this
    obtain ⟨n, e0, _, hw⟩ := DataW.trod_int Try.underlying5 this
    exact ⟨n, by rw [List.getElem?_eq_getElem hi']; simpa using e0, hw⟩)
  refine ⟨xs, ⟨?_, hb⟩, ?_⟩
  · have := congrArg List.length hxs
    rw [Array.length_toList, hsz, List.length_map] at this
    exact this.symm
  · have e : cs = idc xs := by
      apply Array.ext'
      rw [hxs]; simp [idc]
    rw [e]
end Go.Proofs.Qxb6001691a
