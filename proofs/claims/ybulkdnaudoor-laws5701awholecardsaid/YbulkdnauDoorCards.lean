/-
  DERIVED. GIVEN WITH THE SEED: THE CARDS: each row of YbulkdnauDoorRows.lean that lists a variable, with what it lists TIED to the program's text (the seventh form; the later family's looks); each row that meets fmt, with fmt's text TOLD by the authors' own Lean function (tested against real Go, not proved from fmt's source: count such statements apart). THE CARD IS WHAT COUNTS. Prove the row's statement (the work); the ties are given (YbulkdnauDoorTie.lean); close each card by the builder's one call (the guide's Derived/Test/ToyasCard.lean, 'card_holds'). Laid BY PROGRAM, IN A SANDBOX (cutbox-door.mjs). By AI agents, Wed Nov 11 2026. No macro, syntax, notation, axiom, sorry.
-/
import Derived.Test.YbulkdnauDoorRows
import GoSem.ClaimSeven
namespace Go.Proofs.YbulkdnauDoor
namespace Rows

/-- THE TIED CARD OF 'document.LawS5701AWhole'. -/
def lawS5701AWholeCard : Claim7 := { stood := { row := lawS5701AWholeRow, standIns := [], harness := (true, "11c65cf2fce75af2637a2eb4965d9971bb52541c4e71dfd77c21d4c262b5a2b8"), looks := false }, kinds := [], alts := [], laidByText := true, laidKinds := [.data], laidTests := true, laidLooks := .later }
def LawS5701AWholeCardSaid : Prop := Claim7.holds Ybad.pinned (.plain (OpenSpec.ofChange lawS5701AWholeSpec)) lawS5701AWholeCard
end Rows
end Go.Proofs.YbulkdnauDoor
