/-
  No cell of these rows narrows 'for every input' (looked for: loops, veiled, ifaces, maps, wideKeys, modest, calm, conditions, laid).
  DERIVED. THE GIVEN ROWS OF THIS SEAT. 1 by the template 'for every input the law returns true; each argument reads behind the call as it read before'; 0 by the template 'total and deterministic' (their statements: YbulkdliqTotals.lean).
  GIVEN WITH THE SEED: the statements are not yours to turn. If you find one false, say at which input.
  Laid BY PROGRAM, IN A SANDBOX (cutbox-rows.mjs): the forced cells as the released guide's own fill.sh prints them over the translation 858432fc4693855d… (all of the seat's roots in one cut). By AI agents, Wed Nov 11 2026. No macro, syntax, notation, axiom, sorry.
-/
import Derived.Test.YbulkdliqChecked
import GoSem.Claim
import GoSem.ClaimJoined
import GoSem.ClaimMapViews
import Derived.JoinedTies
import Derived.KernelRfl
namespace Go.Proofs.Ybulkdliq
/- THE CELL 'sum', in the pinned program and in every row, IS THE sha256 OF THE DUMP (.gsa) THAT YbulkdliqProg.lean LOADS. Nothing in Lean hashes anything: it is a label: what it is worth is what the hold of that sum in a sandbox is worth. -/
noncomputable def Yba.pinned : Pinned := { name := "ybulkdliq", sum := "858432fc4693855de529f4cdb987dc4a3266be04a9447abfd4dc25b3dcf5683a", checked := Yba.checked }
namespace Rows
def none {H : Type} : Left H := { results := [], args := [] }

/-- 'steady-turnstile.LawS5619BWhole': WHATEVER THE INPUT: true; the input reads as it did. -/
def lawS5619BWholeSpec : ChangeSpec := { name := "lawS5619BWhole", fn := fun _ => fun
  | [d1, d2, d3] => { results := [.lit (.bool true)], args := [d1, d2, d3] }
  | _ => none }
def lawS5619BWholeRow : OpenClaim := { program := "ybulkdliq", sum := "858432fc4693855de529f4cdb987dc4a3266be04a9447abfd4dc25b3dcf5683a", func := "example.com/steady-turnstile/steady-turnstile.LawS5619BWhole", spec := "lawS5619BWhole", inPlace := ["sync/atomic.StoreInt32", "sync/atomic.LoadInt32", "sync/atomic.CompareAndSwapInt32", "sync/atomic.LoadUint32"], apart := false }
def LawS5619BWholeSaid : Prop := lawS5619BWholeRow.holds Yba.pinned (OpenSpec.ofChange lawS5619BWholeSpec)

/-- ITS FALSE NEIGHBOUR: 'it returns false'. Refute it at one input. -/
def lawS5619BWholeWrong : ChangeSpec := { name := "lawS5619BWhole", fn := fun _ => fun
  | [d1, d2, d3] => { results := [.lit (.bool false)], args := [d1, d2, d3] }
  | _ => none }
def LawS5619BWholeWrongFalsely : Prop := lawS5619BWholeRow.holds Yba.pinned (OpenSpec.ofChange lawS5619BWholeWrong)

end Rows
end Go.Proofs.Ybulkdliq
