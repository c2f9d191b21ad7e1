/-
  DERIVED. GIVEN WITH THE SEED: THE CARDS: each row of YbulkexocqDoorRows.lean that lists a variable, with what it lists TIED to the program's text (the seventh form; the later family's looks); each row that meets fmt, with fmt's text TOLD by the authors' own Lean function (tested against real Go, not proved from fmt's source: count such statements apart). THE CARD IS WHAT COUNTS. Prove the row's statement (the work); the ties are given (YbulkexocqDoorTie.lean); close each card by the builder's one call (the guide's Derived/Test/ToyasCard.lean, 'card_holds'). Laid BY PROGRAM, IN A SANDBOX (cutbox-door.mjs). By AI agents, Wed Nov 11 2026. No macro, syntax, notation, axiom, sorry.
-/
import Derived.Test.YbulkexocqDoorRows
import GoSem.ClaimSeven
namespace Go.Proofs.YbulkexocqDoor
namespace Rows

/-- THE TIED CARD OF 'demangle.LawS194067CWhole'. -/
def lawS194067CWholeCard : Claim7 := { stood := { row := lawS194067CWholeRow, standIns := [], harness := (true, "adadb57f9fb51617e863a933ba2f59f683db026cc3a53ac3fe20355b9b9dcf92"), looks := false }, kinds := [], alts := [], laidByText := true, laidKinds := [.data, .data, .data, .data, .wider, .data], laidTests := true, laidLooks := .later }
def LawS194067CWholeCardSaid : Prop := Claim7.holds Ybad.pinned (.plain (OpenSpec.ofChange lawS194067CWholeSpec)) lawS194067CWholeCard
end Rows
end Go.Proofs.YbulkexocqDoor
