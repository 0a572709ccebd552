/-
  No cell of these rows narrows 'for every input' (looked for: loops, veiled, ifaces, maps, wideKeys, modest, calm, conditions, laid).
  DERIVED. THE GIVEN ROWS OF THIS SEAT. 1 by the template 'for every input the law returns true; each argument reads behind the call as it read before'; 0 by the template 'total and deterministic' (their statements: YbulkdlliTotals.lean).
  GIVEN WITH THE SEED: the statements are not yours to turn. If you find one false, say at which input.
  Laid BY PROGRAM, IN A SANDBOX (cutbox-rows.mjs): the forced cells as the released guide's own fill.sh prints them over the translation dcae6edc36fb2c22… (all of the seat's roots in one cut). By AI agents, Wed Nov 11 2026. No macro, syntax, notation, axiom, sorry.
-/
import Derived.Test.YbulkdlliChecked
import GoSem.Claim
import GoSem.ClaimJoined
import GoSem.ClaimMapViews
import Derived.JoinedTies
import Derived.KernelRfl
namespace Go.Proofs.Ybulkdlli
/- THE CELL 'sum', in the pinned program and in every row, IS THE sha256 OF THE DUMP (.gsa) THAT YbulkdlliProg.lean LOADS. Nothing in Lean hashes anything: it is a label: what it is worth is what the hold of that sum in a sandbox is worth. -/
noncomputable def Yba.pinned : Pinned := { name := "ybulkdlli", sum := "dcae6edc36fb2c226182e00290d4cb0c745b48085f7107b51b5abdfc94ff3936", checked := Yba.checked }
namespace Rows
def none {H : Type} : Left H := { results := [], args := [] }

/-- 'bp160.LawS5624BWhole': WHATEVER THE INPUT: true; the input reads as it did. -/
def lawS5624BWholeSpec : ChangeSpec := { name := "lawS5624BWhole", fn := fun _ => fun
  | [d1, d2, d3, d4, d5, d6, d7] => { results := [.lit (.bool true)], args := [d1, d2, d3, d4, d5, d6, d7] }
  | _ => none }
def lawS5624BWholeRow : OpenClaim := { program := "ybulkdlli", sum := "dcae6edc36fb2c226182e00290d4cb0c745b48085f7107b51b5abdfc94ff3936", func := "example.com/keyvouch/keyvouch/internal/bp160.LawS5624BWhole", spec := "lawS5624BWhole", apart := false }
def LawS5624BWholeSaid : Prop := lawS5624BWholeRow.holds Yba.pinned (OpenSpec.ofChange lawS5624BWholeSpec)

/-- ITS FALSE NEIGHBOUR: 'it returns false'. Refute it at one input. -/
def lawS5624BWholeWrong : ChangeSpec := { name := "lawS5624BWhole", fn := fun _ => fun
  | [d1, d2, d3, d4, d5, d6, d7] => { results := [.lit (.bool false)], args := [d1, d2, d3, d4, d5, d6, d7] }
  | _ => none }
def LawS5624BWholeWrongFalsely : Prop := lawS5624BWholeRow.holds Yba.pinned (OpenSpec.ofChange lawS5624BWholeWrong)

end Rows
end Go.Proofs.Ybulkdlli
