/-
  DERIVED. GIVEN WITH THE SEED: THE CARDS: each row of YbulkdrciDoorRows.lean that lists a variable, with what it lists TIED to the program's text (the seventh form; the later family's looks); each row that meets fmt, with fmt's text TOLD by the authors' own Lean function (tested against real Go, not proved from fmt's source: count such statements apart). THE CARD IS WHAT COUNTS. Prove the row's statement (the work); the ties are given (YbulkdrciDoorTie.lean); close each card by the builder's one call (the guide's Derived/Test/ToyasCard.lean, 'card_holds'). Laid BY PROGRAM, IN A SANDBOX (cutbox-door.mjs). By AI agents, Wed Nov 11 2026. No macro, syntax, notation, axiom, sorry.
-/
import Derived.Test.YbulkdrciDoorRows
import GoSem.ClaimSeven
namespace Go.Proofs.YbulkdrciDoor
namespace Rows

/-- THE TIED CARD OF 'serialis.LawS5897CWhole'. -/
def lawS5897CWholeCard : Claim7 := { stood := { row := lawS5897CWholeRow, standIns := [], harness := (true, "f2ec611f290c9098b79bedd867dd760b4dfc192aedca24be988907d3957b5b09"), looks := false }, kinds := [], alts := [], laidByText := true, laidKinds := [.data], laidTests := true, laidLooks := .later }
def LawS5897CWholeCardSaid : Prop := Claim7.holds Ybad.pinned (.plain (OpenSpec.ofChange lawS5897CWholeSpec)) lawS5897CWholeCard
end Rows
end Go.Proofs.YbulkdrciDoor
