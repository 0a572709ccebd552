/-
  No cell of these rows narrows 'for every input' (looked for: loops, veiled, ifaces, maps, wideKeys, modest, calm, conditions, laid).
  DERIVED. THE GIVEN ROWS OF THIS SEAT. 1 by the template 'for every input the law returns true; each argument reads behind the call as it read before'; 0 by the template 'total and deterministic' (their statements: YbulkdlkuTotals.lean).
  GIVEN WITH THE SEED: the statements are not yours to turn. If you find one false, say at which input.
  Laid BY PROGRAM, IN A SANDBOX (cutbox-rows.mjs): the forced cells as the released guide's own fill.sh prints them over the translation bcc0e0edb9ca8aa0… (all of the seat's roots in one cut). By AI agents, Wed Nov 11 2026. No macro, syntax, notation, axiom, sorry.
-/
import Derived.Test.YbulkdlkuChecked
import GoSem.Claim
import GoSem.ClaimJoined
import GoSem.ClaimMapViews
import Derived.JoinedTies
import Derived.KernelRfl
namespace Go.Proofs.Ybulkdlku
/- THE CELL 'sum', in the pinned program and in every row, IS THE sha256 OF THE DUMP (.gsa) THAT YbulkdlkuProg.lean LOADS. Nothing in Lean hashes anything: it is a label: what it is worth is what the hold of that sum in a sandbox is worth. -/
noncomputable def Yba.pinned : Pinned := { name := "ybulkdlku", sum := "bcc0e0edb9ca8aa0b7f358f867b4cea19e292cb0d89895a6ceaed77a6600df9a", checked := Yba.checked }
namespace Rows
def none {H : Type} : Left H := { results := [], args := [] }

/-- 'tickwheel.LawS5623CWhole': WHATEVER THE INPUT: true; the input reads as it did. -/
def lawS5623CWholeSpec : ChangeSpec := { name := "lawS5623CWhole", fn := fun _ => fun
  | [d1, d2, d3] => { results := [.lit (.bool true)], args := [d1, d2, d3] }
  | _ => none }
def lawS5623CWholeRow : OpenClaim := { program := "ybulkdlku", sum := "bcc0e0edb9ca8aa0b7f358f867b4cea19e292cb0d89895a6ceaed77a6600df9a", func := "example.com/tickwheel/tickwheel.LawS5623CWhole", spec := "lawS5623CWhole", inPlace := ["sync/atomic.StoreInt64", "sync/atomic.AddInt64", "sync/atomic.LoadInt64"], unfollowed := true, recurses := true, apart := false }
def LawS5623CWholeSaid : Prop := lawS5623CWholeRow.holds Yba.pinned (OpenSpec.ofChange lawS5623CWholeSpec)

/-- ITS FALSE NEIGHBOUR: 'it returns false'. Refute it at one input. -/
def lawS5623CWholeWrong : ChangeSpec := { name := "lawS5623CWhole", fn := fun _ => fun
  | [d1, d2, d3] => { results := [.lit (.bool false)], args := [d1, d2, d3] }
  | _ => none }
def LawS5623CWholeWrongFalsely : Prop := lawS5623CWholeRow.holds Yba.pinned (OpenSpec.ofChange lawS5623CWholeWrong)

end Rows
end Go.Proofs.Ybulkdlku
