/-
  DERIVED. GIVEN WITH THE SEED: THE CARDS: each row of YbulkdtvyDoorRows.lean that lists a variable, with what it lists TIED to the program's text (the seventh form; the later family's looks); each row that meets fmt, with fmt's text TOLD by the authors' own Lean function (tested against real Go, not proved from fmt's source: count such statements apart). THE CARD IS WHAT COUNTS. Prove the row's statement (the work); the ties are given (YbulkdtvyDoorTie.lean); close each card by the builder's one call (the guide's Derived/Test/ToyasCard.lean, 'card_holds'). Laid BY PROGRAM, IN A SANDBOX (cutbox-door.mjs). By AI agents, Wed Nov 11 2026. No macro, syntax, notation, axiom, sorry.
-/
import Derived.Test.YbulkdtvyDoorRows
import GoSem.ClaimSeven
namespace Go.Proofs.YbulkdtvyDoor
namespace Rows

/-- THE TIED CARD OF 'check.LawS6030CWhole'. -/
def lawS6030CWholeCard : Claim7 := { stood := { row := lawS6030CWholeRow, standIns := [], harness := (true, "2e89fecb544e5891201dac88b6e5995ee184258bb84ae0ec11dca4a509f51ba2"), looks := false }, kinds := [], alts := [], laidByText := true, laidKinds := [.data], laidTests := true, laidLooks := .later }
def LawS6030CWholeCardSaid : Prop := Claim7.holds Ybad.pinned (.plain (OpenSpec.ofChange lawS6030CWholeSpec)) lawS6030CWholeCard
end Rows
end Go.Proofs.YbulkdtvyDoor
