/-
  DERIVED. GIVEN WITH THE SEED: THE CARDS: each row of YbulkdqteDoorRows.lean that lists a variable, with what it lists TIED to the program's text (the seventh form; the later family's looks); each row that meets fmt, with fmt's text TOLD by the authors' own Lean function (tested against real Go, not proved from fmt's source: count such statements apart). THE CARD IS WHAT COUNTS. Prove the row's statement (the work); the ties are given (YbulkdqteDoorTie.lean); close each card by the builder's one call (the guide's Derived/Test/ToyasCard.lean, 'card_holds'). Laid BY PROGRAM, IN A SANDBOX (cutbox-door.mjs). By AI agents, Wed Nov 11 2026. No macro, syntax, notation, axiom, sorry.
-/
import Derived.Test.YbulkdqteDoorRows
import GoSem.ClaimSeven
namespace Go.Proofs.YbulkdqteDoor
namespace Rows

/-- THE TIED CARD OF 'book.LawS5880BWhole'. -/
def lawS5880BWholeCard : Claim7 := { stood := { row := lawS5880BWholeRow, standIns := [], harness := (true, "f5d02d8c8d41e4cccb7d881551b4c5e591ec59139eec7a56c104987a07513150"), looks := false }, kinds := [], alts := [], laidByText := true, laidKinds := [.wider], laidTests := true, laidLooks := .later }
def LawS5880BWholeCardSaid : Prop := Claim7.holds Ybad.pinned (.plain (OpenSpec.ofChange lawS5880BWholeSpec)) lawS5880BWholeCard
end Rows
end Go.Proofs.YbulkdqteDoor
