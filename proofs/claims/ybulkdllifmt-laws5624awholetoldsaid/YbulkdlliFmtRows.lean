/-
  No cell of these rows narrows 'for every input' (looked for: loops, veiled, ifaces, maps, wideKeys, modest, calm, conditions, laid).
  DERIVED. THE GIVEN ROWS OF THIS SEAT. 1 by the template 'for every input the law returns true; each argument reads behind the call as it read before'; 0 by the template 'total and deterministic' (their statements: YbulkdlliFmtTotals.lean).
  GIVEN WITH THE SEED: the statements are not yours to turn. If you find one false, say at which input.
  Laid BY PROGRAM, IN A SANDBOX (cutbox-rows.mjs): the forced cells as the released guide's own fill.sh prints them over the translation 6cd9613d11c25187… (all of the seat's roots in one cut). By AI agents, Wed Nov 11 2026. No macro, syntax, notation, axiom, sorry.
-/
import Derived.Test.YbulkdlliFmtChecked
import GoSem.Claim
import GoSem.ClaimJoined
import GoSem.ClaimMapViews
import Derived.JoinedTies
import Derived.KernelRfl
namespace Go.Proofs.YbulkdlliFmt
/- THE CELL 'sum', in the pinned program and in every row, IS THE sha256 OF THE DUMP (.gsa) THAT YbulkdlliFmtProg.lean LOADS. Nothing in Lean hashes anything: it is a label: what it is worth is what the hold of that sum in a sandbox is worth. -/
noncomputable def Ybaf.pinned : Pinned := { name := "ybulkdllifmt", sum := "6cd9613d11c25187d2867015baf0e16c10ec59120fcf4abb4881b9cb259eb85e", checked := Ybaf.checked }
namespace Rows
def none {H : Type} : Left H := { results := [], args := [] }

/-- 'wire.LawS5624AWhole': WHATEVER THE INPUT: true; the input reads as it did. -/
def lawS5624AWholeSpec : ChangeSpec := { name := "lawS5624AWhole", fn := fun _ => fun
  | [d1, d2] => { results := [.lit (.bool true)], args := [d1, d2] }
  | _ => none }
def lawS5624AWholeRow : OpenClaim := { program := "ybulkdllifmt", sum := "6cd9613d11c25187d2867015baf0e16c10ec59120fcf4abb4881b9cb259eb85e", func := "example.com/keyvouch/keyvouch/internal/wire.LawS5624AWhole", spec := "lawS5624AWhole", stops := ["fmt.Sprintf"], inPlace := ["fmt.Sprintf"], apart := false }
/-- NO THEOREM (fmt's text is open here; it may be false): for the released tool's asking of the row's closed facts alone. THE STATEMENT IS 'LawS5624AWholeToldSaid' (YbulkdlliFmtCards.lean). -/
def LawS5624AWholeFormAsk : Prop := lawS5624AWholeRow.holds Ybaf.pinned (OpenSpec.ofChange lawS5624AWholeSpec)

/-- ITS FALSE NEIGHBOUR: 'it returns false'. Refute it at one input. -/
def lawS5624AWholeWrong : ChangeSpec := { name := "lawS5624AWhole", fn := fun _ => fun
  | [d1, d2] => { results := [.lit (.bool false)], args := [d1, d2] }
  | _ => none }
def LawS5624AWholeWrongFormAsk : Prop := lawS5624AWholeRow.holds Ybaf.pinned (OpenSpec.ofChange lawS5624AWholeWrong)

end Rows
end Go.Proofs.YbulkdlliFmt
