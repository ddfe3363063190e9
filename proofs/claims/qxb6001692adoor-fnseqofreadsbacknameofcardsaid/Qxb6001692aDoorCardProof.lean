import Derived.Test.Qxb6001692aDoorProof
import Derived.SevenTiedAt
namespace Go.Proofs.Qxb6001692aDoor.fnSeqOf
open Go

theorem proved : Rows.FnSeqOfReadsBackNameOfCardSaid :=
  Claim7.holds_tied_plain_at .later [] [.data, .data, .data, .sentinel, .sentinel] true (true, "d30813641a23eb0f8d8e4dc4977ac0e1d9d5881a8d1dc9744630f3267446d0fa") true
    row_holds (fun _ h => by cases h) (by kernel_rfl) (fun _ h => by cases h) fnSeqOfReadsBackNameOf_row_tie rfl ⟨rfl, rfl⟩ (by kernel_rfl) rfl
    (fun f fn hf hfn => by
      obtain rfl : f = 3 := Option.some.inj ((show Tryd.prog.funcNamed Rows.fnSeqOfReadsBackNameOfRow.func = some 3 by kernel_rfl).symm.trans hf) |>.symm
      obtain rfl : fn = Tryd.f3 := (Option.some.inj (Tryd.func3.symm.trans hfn)).symm
      exact ⟨by kernel_rfl, fun j t ht => by
        rw [Tryd.params3] at ht
        have h3 : t = 9 ∨ t = 3 := by
          rcases j with _ | _ | j
          · left; simpa using ht.symm
          · right; simpa using ht.symm
          · simp at ht
        rcases h3 with rfl | rfl
        · exact (show Tryd.prog.wantsStandIn 9 = false by kernel_rfl)
        · exact (show Tryd.prog.wantsStandIn 3 = false by kernel_rfl)⟩)
    (by kernel_rfl)
#print axioms proved
end Go.Proofs.Qxb6001692aDoor.fnSeqOf
