/-
  The row of 'LawS5623BWhole' proved, and its tied card: the one listed variable (math/bits' de Bruijn table) opened into its cells; the witness starts in the heap that the variables' door leaves.
-/
import Derived.Test.YbulkdlkuDoorRRows
import Derived.Test.YbulkdlkuDoorRTie
import Derived.Test.YbulkdlkuDoorRCards
import Derived.Test.YbulkdlkuDoorRLaw
import Derived.ProofKit
import Derived.LaidMore
import Derived.OpenShut
import Derived.Stop.Joined
import Derived.Lib.LaidTab
import Derived.SevenTiedAt
namespace Go.Proofs.YbulkdlkuDoorR
open Go.ChangeShapes Go.WideShapes Go.ChangeAt Go.RowKit

theorem own : ownKnob Ybad.prog.godebug = none := by kernel_rfl

/-- The listed variable's name, as the row lists it. -/
def tabName : String := (Rows.lawS5623BWholeRow.laid.map (·.1)).headD ""
theorem gTab : Ybad.prog.globalNamed tabName = some 0 := by kernel_rfl
theorem tTab : (Ybad.prog.globals[0]?).map (·.type) = some 33 := by kernel_rfl
theorem cells5 : Ybad.prog.cellsOf 5 = 1 := by kernel_rfl
theorem cells33 : Ybad.prog.cellsOf 33 = 64 := by kernel_rfl

theorem door_met (os : Os) (args : Array Value) : laidMetH Ybad.prog Rows.lawS5623BWholeRow.laid ((World.doorLaid Ybad.prog 400 os).forCall (fun _ _ => 0) ⟨#[], args, []⟩).memory :=
  laidMetH_of_parts3 (fuel := 8) (laidMet_of_run' 8 (by kernel_rfl) (by kernel_rfl)) (by kernel_rfl) (by kernel_rfl)

/-- What the condition gives the walk: the table's cells. -/
theorem of_laid {W : World} (h : laidMetH Ybad.prog Rows.lawS5623BWholeRow.laid W) : TabAt W := by
  rw [MakeChecks.laidMetH_plain _ _ _ (by kernel_rfl)] at h
  have h' : laidMet Ybad.prog ((tabName, Lib.tabData .u8 (Lib.deBruijn64tab.map fun n : Nat => (n : Int))) :: []) W := h
  have t := Lib.tabIs_of_head gTab tTab Ybad.underlying33 Ybad.underlying5 cells5 cells33 h'
  intro j hj
  have c := t.cell gTab j (by simpa using hj)
  rw [c]
  simp [List.getD, hj]

set_option maxRecDepth 100000 in
theorem lifted (os : Os) (started : os.Started) (H : Type) (enc : TypeId × Value → H) :
    ReturnsInHanded {} Ybad.checked os 3 .any (fun w args => (Rows.lawS5623BWholeSpec.pre enc Ybad.prog Ybad.f3 [] false w args ∧ laidMetH Ybad.prog Rows.lawS5623BWholeRow.laid w) ∧ sizedMet enc Ybad.prog Ybad.f3 (OpenSpec.ofChange Rows.lawS5623BWholeSpec) false w args)
      (Rows.lawS5623BWholeSpec.post enc Ybad.prog Ybad.f3 false true false false) := by
  refine returnsInHanded_of_change_and (C := Ybad.checked) (X := fun w _ => laidMetH Ybad.prog Rows.lawS5623BWholeRow.laid w) (fun _ _ _ hh h => h.of_heap hh) own started (by kernel_rfl) Ybad.func3
    (ChangeSpec.witness_shaped (enc := enc) (C := Ybad.checked) (os := os) (X := fun w _ => laidMetH Ybad.prog Rows.lawS5623BWholeRow.laid w) false (World.doorLaid Ybad.prog 400 os) #[.int .i64 0, .int .i64 0] 8 rfl (World.shaped_of_RefB (by kernel_rfl) (by kernel_rfl)) (by kernel_rfl) (by kernel_rfl) (by kernel_rfl) (door_met os _)) ?_
  intro W base args ds gs before hval0 hW _ _ hL _
  have hval : ∀ (j : Nat) t v, Ybad.f3.params[j]? = some t → args[j]? = some v → Value.okWide Ybad.prog W .any base t v := hval0
  have hW' := hW
  obtain ⟨p, q, hA0, hV, rfl, hfz, hnd⟩ := hW
  have hA : DataW.TrodAll enc Ybad.prog W 0 (fun _ => true) true Ybad.f3.params.toList args.toList ds p := hA0
  rw [Ybad.params3] at hA hval
  obtain ⟨v0, vs0, d0, ds0, p0, q0, hargs, rfl, rfl, h0, r0⟩ := trodAll_cons hA
  obtain ⟨v1, vs1, d1, ds1, p1, q1, rfl, rfl, rfl, h1, r1⟩ := trodAll_cons r0
  obtain ⟨rfl, rfl, rfl⟩ := trodAll_nil r1
  obtain rfl : args = #[v0, v1] := by cases args; simp_all
  obtain ⟨rfl, rfl⟩ := trodVars_none hV
  obtain ⟨a0, rfl, rfl, rfl, w0⟩ := open_int Ybad.underlying2 (hval 0 2 v0 rfl rfl) h0
  obtain ⟨a1, rfl, rfl, rfl, w1⟩ := open_int Ybad.underlying2 (hval 1 2 v1 rfl rfl) h1
  have hT := of_laid hL
  clear hA0 hval0
  simp only [List.append_nil] at hW'
  have bd : ∀ x : Int, (Lit.int .i64 x).wf = true → -9223372036854775808 ≤ x ∧ x ≤ 9223372036854775807 := by
    intro x h
    simp [Lit.wf, IntKind.min, IntKind.max, IntKind.signed, IntKind.bits] at h
    omega
  refine (law_any a0 a1 W (bd _ w0).1 (bd _ w0).2 (bd _ w1).1 (bd _ w1).2 hT).mono fun e W' ⟨he, hg⟩ => ?_
  subst he
  exact ⟨_, rfl, post_of_same (pa := []) (pv := []) hW' (fun _ _ _ => (trodAll_cons_mk (shut_bool Ybad.underlying4 _) trodAll_mk0)) (fun sp _ => (trodAll_cons_mk (shut_int Ybad.underlying2 w0) (trodAll_cons_mk (shut_int Ybad.underlying2 w1) trodAll_mk0))) (fun _ _ => rfl) rfl
    (hg.frame _) hg.2.1 (ok_one (by kernel_rfl) rfl (okWide_bool_mk Ybad.underlying4 _))⟩

theorem row_holds : Rows.LawS5623BWholeSaid :=
  OpenClaim.holds_of_wide 3 Ybad.f3 rfl rfl rfl rfl rfl rfl rfl ⟨rfl, rfl, rfl, rfl, rfl⟩ rfl rfl rfl rfl rfl (by kernel_rfl) Ybad.func3 (by kernel_rfl)
    (of_decide_eq_true (by kernel_rfl)) (by unfold Func.isWrapper; first | (rw [if_pos (by decide +kernel)]; kernel_rfl) | (rw [if_neg (by decide +kernel)]; exact ⟨rfl, rfl⟩))
    (fun os started H enc _ => lifted os started H enc)

/-- ████ THE STATEMENT: the tied card ████ -/
theorem card_holds : Rows.LawS5623BWholeCardSaid :=
  Claim7.holds_tied_plain_at .later [] [.data] true Rows.lawS5623BWholeCard.stood.harness false
    row_holds (fun _ h => by cases h) (by kernel_rfl) (fun _ h => by cases h) lawS5623BWhole_row_tie rfl ⟨rfl, rfl⟩ (by kernel_rfl) rfl
    (fun f fn hf hfn => by
      obtain rfl : f = 3 := Option.some.inj ((show Ybad.prog.funcNamed Rows.lawS5623BWholeRow.func = some 3 by kernel_rfl).symm.trans hf) |>.symm
      obtain rfl : fn = Ybad.f3 := (Option.some.inj (Ybad.func3.symm.trans hfn)).symm
      exact ⟨by kernel_rfl, fun j t ht => by
        rw [Ybad.params3] at ht
        have hm : t ∈ [2] := by
          have := Array.mem_of_getElem? ht
          simp at this
          simp [this]
        have hall : ([2].all fun u => !Ybad.prog.wantsStandIn u) = true := by kernel_rfl
        exact (show Ybad.prog.wantsStandIn t = false by simpa using List.all_eq_true.1 hall t hm)⟩)
    (by kernel_rfl)
end Go.Proofs.YbulkdlkuDoorR
