/-
  DERIVED. GIVEN WITH THE SEED: THE CARDS: each row of YbulkexobaGreatFmtRows.lean that lists a variable, with what it lists TIED to the program's text (the seventh form; the later family's looks); each row that meets fmt, with fmt's text TOLD by the authors' own Lean function (tested against real Go, not proved from fmt's source: count such statements apart). THE CARD IS WHAT COUNTS. Prove the row's statement (the work); the ties are given (YbulkexobaGreatFmtTie.lean); close each card by the builder's one call (the guide's Derived/Test/ToyasCard.lean, 'card_holds'). Laid BY PROGRAM, IN A SANDBOX (cutbox-door.mjs). By AI agents, Wed Nov 11 2026. No macro, syntax, notation, axiom, sorry.
-/
import Derived.Test.YbulkexobaGreatFmtRows
import GoSem.ClaimSeven
namespace Go.Proofs.YbulkexobaGreatFmt
namespace Rows

/-- THE TOLD AND TIED CARD OF 'parser.LawS194064CWhole'. -/
def lawS194064CWholeCard : Claim7 := { stood := { row := lawS194064CWholeRow, standIns := [], harness := (true, "6e60968257853bc0b83ae67ebda8b2ad8e8b9e34f2be7cd35b946478929c9ffd"), looks := true }, told := true, laidByText := true, laidKinds := [.data, .data, .data, .sentinel, .sentinel, .mapped, .mapped], laidTests := true, laidLooks := .later, goes := false }
def LawS194064CWholeToldSaid : Prop := Claim7.holds Ybaz.pinned (.plain (OpenSpec.ofChange lawS194064CWholeSpec)) lawS194064CWholeCard
/-- ITS FALSE NEIGHBOUR. Refute it at one input. -/
def LawS194064CWholeToldWrongFalsely : Prop := Claim7.holds Ybaz.pinned (.plain (OpenSpec.ofChange lawS194064CWholeWrong)) lawS194064CWholeCard
end Rows
end Go.Proofs.YbulkexobaGreatFmt
