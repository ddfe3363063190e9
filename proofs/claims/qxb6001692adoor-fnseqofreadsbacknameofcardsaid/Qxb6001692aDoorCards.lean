/-
  DERIVED. GIVEN WITH THE SEED: THE CARDS: each row of Qxb6001692aDoorRows.lean that lists a variable, with what it lists TIED to the program's text (the seventh form; the later family's looks); each row that meets fmt, with fmt's text TOLD by the authors' own Lean function (tested against real Go, not proved from fmt's source: count such statements apart). THE CARD IS WHAT COUNTS. Prove the row's statement (the work); the ties are given (Qxb6001692aDoorTie.lean); close each card by the builder's one call (the guide's Derived/Test/ToyasCard.lean, 'card_holds'). Laid BY PROGRAM, IN A SANDBOX (cutbox-door.mjs). By AI agents, Wed Nov 11 2026. No macro, syntax, notation, axiom, sorry.
-/
import Derived.Test.Qxb6001692aDoorRows
import GoSem.ClaimSeven
namespace Go.Proofs.Qxb6001692aDoor
namespace Rows

/-- THE TIED CARD OF 'zzlaws_root_g2.FnSeqOfReadsBackNameOf'. -/
def fnSeqOfReadsBackNameOfCard : Claim7 := { stood := { row := fnSeqOfReadsBackNameOfRow, standIns := [], harness := (true, "d30813641a23eb0f8d8e4dc4977ac0e1d9d5881a8d1dc9744630f3267446d0fa"), looks := true }, kinds := [], alts := [], laidByText := true, laidKinds := [.data, .data, .data, .sentinel, .sentinel], laidTests := true, laidLooks := .later }
def FnSeqOfReadsBackNameOfCardSaid : Prop := Claim7.holds Tryd.pinned (.plain (OpenSpec.ofChange fnSeqOfReadsBackNameOfSpec)) fnSeqOfReadsBackNameOfCard
end Rows
end Go.Proofs.Qxb6001692aDoor
