/-
  DERIVED. GIVEN WITH THE SEED: THE CARDS: each row of YbulkdmycDoorRows.lean that lists a variable, with what it lists TIED to the program's text (the seventh form; the later family's looks); each row that meets fmt, with fmt's text TOLD by the authors' own Lean function (tested against real Go, not proved from fmt's source: count such statements apart). THE CARD IS WHAT COUNTS. Prove the row's statement (the work); the ties are given (YbulkdmycDoorTie.lean); close each card by the builder's one call (the guide's Derived/Test/ToyasCard.lean, 'card_holds'). Laid BY PROGRAM, IN A SANDBOX (cutbox-door.mjs). By AI agents, Wed Nov 11 2026. No macro, syntax, notation, axiom, sorry.
-/
import Derived.Test.YbulkdmycDoorRows
import GoSem.ClaimSeven
namespace Go.Proofs.YbulkdmycDoor
namespace Rows

/-- THE TIED CARD OF 'mgm.LawS5696CWhole'. -/
def lawS5696CWholeCard : Claim7 := { stood := { row := lawS5696CWholeRow, standIns := [], harness := (true, "d936b6b570598c06b8583c26b449b954a7ec771c6fa8c9ff0180fa7134fe357f"), looks := false }, kinds := [], alts := [], laidByText := true, laidKinds := [.data], laidTests := true, laidLooks := .later }
def LawS5696CWholeCardSaid : Prop := Claim7.holds Ybad.pinned (.plain (OpenSpec.ofChange lawS5696CWholeSpec)) lawS5696CWholeCard
end Rows
end Go.Proofs.YbulkdmycDoor
