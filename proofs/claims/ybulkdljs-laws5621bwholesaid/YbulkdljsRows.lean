/-
  No cell of these rows narrows 'for every input' (looked for: loops, veiled, ifaces, maps, wideKeys, modest, calm, conditions, laid).
  DERIVED. THE GIVEN ROWS OF THIS SEAT. 1 by the template 'for every input the law returns true; each argument reads behind the call as it read before'; 0 by the template 'total and deterministic' (their statements: YbulkdljsTotals.lean).
  GIVEN WITH THE SEED: the statements are not yours to turn. If you find one false, say at which input.
  Laid BY PROGRAM, IN A SANDBOX (cutbox-rows.mjs): the forced cells as the released guide's own fill.sh prints them over the translation d1ae17aeaebd203a… (all of the seat's roots in one cut). By AI agents, Wed Nov 11 2026. No macro, syntax, notation, axiom, sorry.
-/
import Derived.Test.YbulkdljsChecked
import GoSem.Claim
import GoSem.ClaimJoined
import GoSem.ClaimMapViews
import Derived.JoinedTies
import Derived.KernelRfl
namespace Go.Proofs.Ybulkdljs
/- THE CELL 'sum', in the pinned program and in every row, IS THE sha256 OF THE DUMP (.gsa) THAT YbulkdljsProg.lean LOADS. Nothing in Lean hashes anything: it is a label: what it is worth is what the hold of that sum in a sandbox is worth. -/
noncomputable def Yba.pinned : Pinned := { name := "ybulkdljs", sum := "d1ae17aeaebd203a38a58f95648b0bee0adbe1969a6f4ba8080d256ff20b6a95", checked := Yba.checked }
namespace Rows
def none {H : Type} : Left H := { results := [], args := [] }

/-- 'revtree.LawS5621BWhole': WHATEVER THE INPUT: true; the input reads as it did. -/
def lawS5621BWholeSpec : ChangeSpec := { name := "lawS5621BWhole", fn := fun _ => fun
  | [d1, d2, d3, d4] => { results := [.lit (.bool true)], args := [d1, d2, d3, d4] }
  | _ => none }
def lawS5621BWholeRow : OpenClaim := { program := "ybulkdljs", sum := "d1ae17aeaebd203a38a58f95648b0bee0adbe1969a6f4ba8080d256ff20b6a95", func := "example.com/revtree/revtree.LawS5621BWhole", spec := "lawS5621BWhole", inPlace := ["slices.overlaps[*example.com/revtree/revtree.history]", "slices.overlaps[*example.com/revtree/revtree.keyNode[*example.com/revtree/revtree.history]]"], unfollowed := true, recurses := true, apart := false }
def LawS5621BWholeSaid : Prop := lawS5621BWholeRow.holds Yba.pinned (OpenSpec.ofChange lawS5621BWholeSpec)

/-- ITS FALSE NEIGHBOUR: 'it returns false'. Refute it at one input. -/
def lawS5621BWholeWrong : ChangeSpec := { name := "lawS5621BWhole", fn := fun _ => fun
  | [d1, d2, d3, d4] => { results := [.lit (.bool false)], args := [d1, d2, d3, d4] }
  | _ => none }
def LawS5621BWholeWrongFalsely : Prop := lawS5621BWholeRow.holds Yba.pinned (OpenSpec.ofChange lawS5621BWholeWrong)

end Rows
end Go.Proofs.Ybulkdljs
