/-
  DERIVED. GIVEN WITH THE SEED: THE CARDS: each row of YbulkdlkuDoorRRows.lean that lists a variable, with what it lists TIED to the program's text (the seventh form; the later family's looks); each row that meets fmt, with fmt's text TOLD by the authors' own Lean function (tested against real Go, not proved from fmt's source: count such statements apart). THE CARD IS WHAT COUNTS. Prove the row's statement (the work); the ties are given (YbulkdlkuDoorRTie.lean); close each card by the builder's one call (the guide's Derived/Test/ToyasCard.lean, 'card_holds'). Laid BY PROGRAM, IN A SANDBOX (cutbox-door.mjs). By AI agents, Wed Nov 11 2026. No macro, syntax, notation, axiom, sorry.
-/
import Derived.Test.YbulkdlkuDoorRRows
import GoSem.ClaimSeven
namespace Go.Proofs.YbulkdlkuDoorR
namespace Rows

/-- THE TIED CARD OF 'tickwheel.LawS5623BWhole'. -/
def lawS5623BWholeCard : Claim7 := { stood := { row := lawS5623BWholeRow, standIns := [], harness := (true, "f6f9f7bc00e12bf88585a64b2a68047e4ade16004a4d747f92f73aa9f9fe7e59"), looks := false }, kinds := [], alts := [], laidByText := true, laidKinds := [.data], laidTests := true, laidLooks := .later }
def LawS5623BWholeCardSaid : Prop := Claim7.holds Ybad.pinned (.plain (OpenSpec.ofChange lawS5623BWholeSpec)) lawS5623BWholeCard
end Rows
end Go.Proofs.YbulkdlkuDoorR
