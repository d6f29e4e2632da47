/-
  DERIVED. GIVEN WITH THE SEED: THE CARDS: each row of YbulkdrbgDoorRows.lean that lists a variable, with what it lists TIED to the program's text (the seventh form; the later family's looks); each row that meets fmt, with fmt's text TOLD by the authors' own Lean function (tested against real Go, not proved from fmt's source: count such statements apart). THE CARD IS WHAT COUNTS. Prove the row's statement (the work); the ties are given (YbulkdrbgDoorTie.lean); close each card by the builder's one call (the guide's Derived/Test/ToyasCard.lean, 'card_holds'). Laid BY PROGRAM, IN A SANDBOX (cutbox-door.mjs). By AI agents, Wed Nov 11 2026. No macro, syntax, notation, axiom, sorry.
-/
import Derived.Test.YbulkdrbgDoorRows
import GoSem.ClaimSeven
namespace Go.Proofs.YbulkdrbgDoor
namespace Rows

/-- THE TIED CARD OF 'tiers-of-config.LawS5895CWhole'. -/
def lawS5895CWholeCard : Claim7 := { stood := { row := lawS5895CWholeRow, standIns := [], harness := (true, "884c8dcfe235c27dc97d07e00416a3caee68342f759b5c30fef62bfe62d31fbd"), looks := false }, kinds := [], alts := [], laidByText := true, laidKinds := [.called], laidTests := true, laidLooks := .later }
def LawS5895CWholeCardSaid : Prop := Claim7.holds Ybad.pinned (.plain (OpenSpec.ofChange lawS5895CWholeSpec)) lawS5895CWholeCard
end Rows
end Go.Proofs.YbulkdrbgDoor
