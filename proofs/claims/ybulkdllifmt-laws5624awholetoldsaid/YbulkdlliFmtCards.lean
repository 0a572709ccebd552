/-
  DERIVED. GIVEN WITH THE SEED: THE CARDS: each row of YbulkdlliFmtRows.lean that lists a variable, with what it lists TIED to the program's text (the seventh form; the later family's looks); each row that meets fmt, with fmt's text TOLD by the authors' own Lean function (tested against real Go, not proved from fmt's source: count such statements apart). THE CARD IS WHAT COUNTS. Prove the row's statement (the work); the ties are given (YbulkdlliFmtTie.lean); close each card by the builder's one call (the guide's Derived/Test/ToyasCard.lean, 'card_holds'). Laid BY PROGRAM, IN A SANDBOX (cutbox-door.mjs). By AI agents, Wed Nov 11 2026. No macro, syntax, notation, axiom, sorry.
-/
import Derived.Test.YbulkdlliFmtRows
import GoSem.ClaimSeven
namespace Go.Proofs.YbulkdlliFmt
namespace Rows

/-- THE TOLD CARD OF 'wire.LawS5624AWhole'. -/
def lawS5624AWholeCard : Claim7 := { stood := { row := lawS5624AWholeRow, standIns := [], harness := (true, "1ef0cc81ebd4c7c0916d96a1f20ea0c9278a376b79766aacd22be88a872a61fe"), looks := false }, told := true, goes := false }
def LawS5624AWholeToldSaid : Prop := Claim7.holds Ybaf.pinned (.plain (OpenSpec.ofChange lawS5624AWholeSpec)) lawS5624AWholeCard
/-- ITS FALSE NEIGHBOUR. Refute it at one input. -/
def LawS5624AWholeToldWrongFalsely : Prop := Claim7.holds Ybaf.pinned (.plain (OpenSpec.ofChange lawS5624AWholeWrong)) lawS5624AWholeCard
end Rows
end Go.Proofs.YbulkdlliFmt
