import Derived.Test.Qxb6001692aRows
import Derived.Test.Qxb6001692aLb
import Derived.WalkKit
import Derived.ProofKit
import Derived.OpenShut
import Derived.SliceStrings
import Derived.Below
import Derived.Carry
namespace Go.Proofs.Qxb6001692a.fnNextNodes
open Go.ChangeShapes Go.WideShapes Go.ChangeAt Go.RowKit
set_option linter.unusedVariables false

theorem own : ownKnob Try.prog.godebug = none := by kernel_rfl
theorem laidOut : laidOutB Try.prog = true := by kernel_rfl

theorem cells9 : Try.prog.cellsOf 9 = 1 := by kernel_rfl
/-- What the walk is told of a slice of strings that came in. -/
def IsStrs (w : World) (a : Option Addr) (len : Nat) (ss : List ByteArray) : Prop := len = ss.length ∧ SlS w a ss ∧ (a = none → ss = []) ∧ ss.length ≤ maxLen

set_option maxRecDepth 100000 in
theorem lifted (os : Os) (started : os.Started) (H : Type) (enc : TypeId × Value → H) :
    ReturnsInHanded {} Try.checked os 7 .any (Rows.fnNextNodesNextThenBackReversedSpec.pre6 enc Try.prog Try.f7 Rows.fnNextNodesNextThenBackReversedRow.domain false) (Rows.fnNextNodesNextThenBackReversedSpec.post enc Try.prog Try.f7 false true false false) := by
  refine returnsInHanded_of_change (C := Try.checked) own started (by kernel_rfl) Try.func7
    (ChangeSpec.witness6 (enc := enc) (C := Try.checked) false ⟨#[], #[.slice none 0 0, .slice none 0 0], []⟩ 8 (by kernel_rfl) (by kernel_rfl) (by kernel_rfl) (by kernel_rfl)) ?_
  intro W base args ds gs before hval0 hW hcnd _
  have hval : ∀ (j : Nat) t v, Try.f7.params[j]? = some t → args[j]? = some v → Value.okWide Try.prog W .any base t v := hval0
  have hW' := hW
  obtain ⟨p, q, hA0, hV, rfl, hfz, hnd⟩ := hW
  have hA : DataW.TrodAll enc Try.prog W 0 (fun _ => true) true Try.f7.params.toList args.toList ds p := hA0
  rw [Try.params7] at hA hval
  obtain ⟨v0, vs0, d0, ds0, p0, q0, hargs, rfl, rfl, h0, r0⟩ := trodAll_cons hA
  obtain ⟨v1, vs1, d1, ds1, p1, q1, rfl, rfl, rfl, h1, r1⟩ := trodAll_cons r0
  obtain ⟨rfl, rfl, rfl⟩ := trodAll_nil r1
  obtain rfl : args = #[v0, v1] := by cases args; simp_all
  obtain ⟨rfl, rfl⟩ := trodVars_none hV
  have open1 : ∀ {a : Option Addr} {len cap : Nat} {x : DataW H × List MemPlace} {fuel : Nat}, DataW.trod enc Try.prog W 0 (fun _ => true) true fuel 33 (Value.slice a len cap).cells.toList = some x → (∀ y ∈ x.2, y.block < W.heap.size) → ∃ ss, IsStrs W a len ss := by
    intro a len cap x fuel hf hlt
    rcases open_strings Try.underlying33 Try.underlying9 cells9 hf with ⟨hcs, _⟩ | ⟨y, l, c, ss, hcs, _, hl, hm, hz, hx, hcell, hsz⟩
    · simp [Value.cells] at hcs
      obtain ⟨rfl, rfl, rfl⟩ := hcs
      exact ⟨[], rfl, fun i hi => by simp at hi, fun _ => rfl, by simp⟩
    · simp [Value.cells] at hcs
      obtain ⟨rfl, rfl, rfl⟩ := hcs
      simp only [if_true] at hz
      refine ⟨ss.take len, by rw [List.length_take]; omega, fun i hi => ?_, fun h => (by cases h), by rw [List.length_take]; omega⟩
      rw [List.length_take] at hi
      refine ⟨y, rfl, ?_, ?_⟩
      · have hc := hcell i (by omega)
        rcases Nat.lt_or_ge y.block W.heap.size with g | g
        · exact g
        · have : W.heap[(y.add i).block]? = none := Array.getElem?_eq_none (by rw [Addr.add_block]; exact g)
          simp [World.cell?, this] at hc
      · rw [hcell i (by omega)]
        simp [List.getD_eq_getElem?_getD, show i < len by omega]
  obtain ⟨a0, len0, cap0, rfl⟩ := okWide_slice Try.underlying33 (hval 0 33 v0 rfl rfl)
  have k0 := h0
  have lt0 : ∀ x ∈ p0, x.block < W.heap.size := by obtain ⟨m, hm⟩ := k0; exact DataW.trod_lt m _ _ _ hm
  obtain ⟨z0, rfl, w0, n0, m0⟩ : ∃ ss, IsStrs W a0 len0 ss := by
    obtain ⟨fuel, hf⟩ := h0
    exact open1 hf lt0
  obtain ⟨a1, len1, cap1, rfl⟩ := okWide_slice Try.underlying33 (hval 1 33 v1 rfl rfl)
  have k1 := h1
  have lt1 : ∀ x ∈ p1, x.block < W.heap.size := by obtain ⟨m, hm⟩ := k1; exact DataW.trod_lt m _ _ _ hm
  obtain ⟨z1, rfl, w1, n1, m1⟩ : ∃ ss, IsStrs W a1 len1 ss := by
    obtain ⟨fuel, hf⟩ := h1
    exact open1 hf lt1
  clear hA0 hval0
  refine (law_any a0 a1 z0 z1 cap0 cap1 W w0 w1 n0 n1 m0 m1).mono fun e W' ⟨he, bel⟩ => ?_
  subst he
  exact ⟨_, rfl, _, _, _, [], _, [], hW', trodAll_mk1 (shut_bool Try.underlying4 _), (trodAll_cons_mk (Below.trod laidOut (by kernel_rfl) (of_decide_eq_true (by kernel_rfl)) k0 bel lt0) (trodAll_cons_mk (Below.trod laidOut (by kernel_rfl) (of_decide_eq_true (by kernel_rfl)) k1 bel lt1) trodAll_mk0)), rfl, bel.frame _, fun h => by cases h⟩

theorem over : Rows.fnNextNodesNextThenBackReversedRow.holds Try.pinned (OpenSpec.ofChange Rows.fnNextNodesNextThenBackReversedSpec) :=
  OpenClaim.holds_of_wide 7 Try.f7 rfl rfl rfl rfl rfl rfl rfl ⟨rfl, rfl, rfl, rfl, rfl⟩ rfl rfl rfl rfl rfl (by kernel_rfl) Try.func7 (by kernel_rfl)
    (of_decide_eq_true (by kernel_rfl)) (by unfold Func.isWrapper; first | (rw [if_pos (by decide +kernel)]; kernel_rfl) | (rw [if_neg (by decide +kernel)]; exact ⟨rfl, rfl⟩))
    (fun os started H enc _ => lifted os started H enc)

theorem proved : Rows.FnNextNodesNextThenBackReversedSaid := over
#print axioms proved
end Go.Proofs.Qxb6001692a.fnNextNodes
