/-
  The law 'LawS5624BWhole' proved: the shell's frame (written by the guide's own program for this function), its walk filled: three ways, by c.
-/
import Derived.Test.YbulkdlliRows
import Derived.Test.YbulkdlliWalks
import Derived.WalkKit
import Derived.ProofKit
import Derived.OpenShut
import Derived.ShutString
namespace Go.Proofs.Ybulkdlli.lawS5624BWhole
open Go.ChangeShapes Go.WideShapes Go.ChangeAt Go.RowKit
open Go.ChangeMaps (open_string shut_string)
set_option linter.unusedVariables false      -- a walk need not use every 'w<i>' (that an integer argument fits its kind)

theorem own : ownKnob Yba.prog.godebug = none := by kernel_rfl

/-! ### STEP 1: THE WALK: the Go text returns true. 'Grown w w'': the world has at most new blocks (Derived/RowKit3.lean). Part the cases AHEAD of 'go_enter' where a test parts the walk; take each callee by a contract of your own. -/
theorem walk (a0 : Int) (a1 : Int) (a2 : Int) (a3 : Int) (a4 : Int) (a5 : Int) (a6 : Int) (w0 : (Lit.int .u64 a0).wf = true) (w1 : (Lit.int .u64 a1).wf = true) (w2 : (Lit.int .u64 a2).wf = true) (w3 : (Lit.int .u64 a3).wf = true) (w4 : (Lit.int .u64 a4).wf = true) (w5 : (Lit.int .u64 a5).wf = true) (w6 : (Lit.int .u64 a6).wf = true) (w : World) :
    Calls Yba.prog 3 #[.int .u64 a0, .int .u64 a1, .int .u64 a2, .int .u64 a3, .int .u64 a4, .int .u64 a5, .int .u64 a6] w fun e w' => e = .returned (.bool true) ∧ Grown w w' := by
  have bd : ∀ x : Int, (Lit.int .u64 x).wf = true → 0 ≤ x ∧ x < 18446744073709551616 := by
    intro x h
    simp [Lit.wf, IntKind.min, IntKind.max, IntKind.signed, IntKind.bits] at h
    omega
  obtain ⟨l0, u0⟩ := bd _ w0
  obtain ⟨l1, u1⟩ := bd _ w1
  obtain ⟨l2, u2⟩ := bd _ w2
  obtain ⟨l3, u3⟩ := bd _ w3
  obtain ⟨l4, u4⟩ := bd _ w4
  obtain ⟨l5, u5⟩ := bd _ w5
  obtain ⟨l6, u6⟩ := bd _ w6
  have mb : 0 ≤ IntKind.u64.wrap (-a0) ∧ IntKind.u64.wrap (-a0) < 18446744073709551616 := by rw [IntKind.wrap_u64]; omega
  by_cases h0 : a0 = 0
  · subst h0
    have z : IntKind.u64.wrap (-(0 : Int)) = 0 := by rw [IntKind.wrap_u64]; omega
    exact law_zero 0 a1 a2 a3 a4 a5 a6 w (by decide) (by decide) (by decide) z (pk_none a1 a4 l1 u1 l4 u4) (pk_none a2 a5 l2 u2 l5 u5) (pk_none a3 a6 l3 u3 l6 u6)
      (choose_is 0 a1 a4 (by omega) (by omega) l1 u1 l4 u4) (choose_is 0 a2 a5 (by omega) (by omega) l2 u2 l5 u5) (choose_is 0 a3 a6 (by omega) (by omega) l3 u3 l6 u6)
  · have hk := mask_is a0 (by omega) u0
    by_cases h1 : a0 = 1
    · subst h1
      have z : IntKind.u64.wrap (-(1 : Int)) = 18446744073709551615 := by rw [IntKind.wrap_u64]; omega
      rw [z] at hk
      exact law_one 1 18446744073709551615 a1 a2 a3 a4 a5 a6 w (by decide) (by decide) (by decide) z hk (pk_all a1 a4 l1 u1 l4 u4) (pk_all a2 a5 l2 u2 l5 u5) (pk_all a3 a6 l3 u3 l6 u6)
        (choose_is _ a1 a4 (by omega) (by omega) l1 u1 l4 u4) (choose_is _ a2 a5 (by omega) (by omega) l2 u2 l5 u5) (choose_is _ a3 a6 (by omega) (by omega) l3 u3 l6 u6)
    · exact law_mid a0 (IntKind.u64.wrap (-a0)) a1 a2 a3 a4 a5 a6 w (by simp [h0]) (by simp [h0]) (by simp [h1]) rfl hk
        (choose_is _ a1 a4 mb.1 mb.2 l1 u1 l4 u4) (choose_is _ a2 a5 mb.1 mb.2 l2 u2 l5 u5) (choose_is _ a3 a6 mb.1 mb.2 l3 u3 l6 u6)

/-! ### THE ROW's STEP: WRITTEN OUT: LEAVE IT -/
set_option maxRecDepth 100000 in
theorem lifted (os : Os) (started : os.Started) (H : Type) (enc : TypeId × Value → H) :
    ReturnsInHanded {} Yba.checked os 3 .any (Rows.lawS5624BWholeSpec.pre6 enc Yba.prog Yba.f3 Rows.lawS5624BWholeRow.domain false) (Rows.lawS5624BWholeSpec.post enc Yba.prog Yba.f3 false true false false) := by
  refine returnsInHanded_of_change (C := Yba.checked) own started (by kernel_rfl) Yba.func3
    (ChangeSpec.witness6 (enc := enc) (C := Yba.checked) false ⟨#[], #[.int .u64 0, .int .u64 0, .int .u64 0, .int .u64 0, .int .u64 0, .int .u64 0, .int .u64 0], []⟩ 8 (by kernel_rfl) (by kernel_rfl) (by kernel_rfl) (by kernel_rfl)) ?_
  intro W base args ds gs before hval0 hW hcnd _
  have hval : ∀ (j : Nat) t v, Yba.f3.params[j]? = some t → args[j]? = some v → Value.okWide Yba.prog W .any base t v := hval0
  have hW' := hW
  obtain ⟨p, q, hA0, hV, rfl, hfz, hnd⟩ := hW
  have hA : DataW.TrodAll enc Yba.prog W 0 (fun _ => true) true Yba.f3.params.toList args.toList ds p := hA0
  rw [Yba.params3] at hA hval
  obtain ⟨v0, vs0, d0, ds0, p0, q0, hargs, rfl, rfl, h0, r0⟩ := trodAll_cons hA
  obtain ⟨v1, vs1, d1, ds1, p1, q1, rfl, rfl, rfl, h1, r1⟩ := trodAll_cons r0
  obtain ⟨v2, vs2, d2, ds2, p2, q2, rfl, rfl, rfl, h2, r2⟩ := trodAll_cons r1
  obtain ⟨v3, vs3, d3, ds3, p3, q3, rfl, rfl, rfl, h3, r3⟩ := trodAll_cons r2
  obtain ⟨v4, vs4, d4, ds4, p4, q4, rfl, rfl, rfl, h4, r4⟩ := trodAll_cons r3
  obtain ⟨v5, vs5, d5, ds5, p5, q5, rfl, rfl, rfl, h5, r5⟩ := trodAll_cons r4
  obtain ⟨v6, vs6, d6, ds6, p6, q6, rfl, rfl, rfl, h6, r6⟩ := trodAll_cons r5
  obtain ⟨rfl, rfl, rfl⟩ := trodAll_nil r6
  obtain rfl : args = #[v0, v1, v2, v3, v4, v5, v6] := by cases args; simp_all
  obtain ⟨rfl, rfl⟩ := trodVars_none hV
  obtain ⟨a0, rfl, rfl, rfl, w0⟩ := open_int Yba.underlying22 (hval 0 22 v0 rfl rfl) h0
  obtain ⟨a1, rfl, rfl, rfl, w1⟩ := open_int Yba.underlying22 (hval 1 22 v1 rfl rfl) h1
  obtain ⟨a2, rfl, rfl, rfl, w2⟩ := open_int Yba.underlying22 (hval 2 22 v2 rfl rfl) h2
  obtain ⟨a3, rfl, rfl, rfl, w3⟩ := open_int Yba.underlying22 (hval 3 22 v3 rfl rfl) h3
  obtain ⟨a4, rfl, rfl, rfl, w4⟩ := open_int Yba.underlying22 (hval 4 22 v4 rfl rfl) h4
  obtain ⟨a5, rfl, rfl, rfl, w5⟩ := open_int Yba.underlying22 (hval 5 22 v5 rfl rfl) h5
  obtain ⟨a6, rfl, rfl, rfl, w6⟩ := open_int Yba.underlying22 (hval 6 22 v6 rfl rfl) h6
  clear hA0 hval0
  simp only [List.append_nil] at hW'
  refine (walk a0 a1 a2 a3 a4 a5 a6 w0 w1 w2 w3 w4 w5 w6 W).mono fun e W' ⟨he, hg⟩ => ?_
  subst he
  exact ⟨_, rfl, post_of_same (pa := []) (pv := []) hW' (fun _ _ _ => (trodAll_cons_mk (shut_bool Yba.underlying4 _) trodAll_mk0)) (fun sp _ => (trodAll_cons_mk (shut_int Yba.underlying22 w0) (trodAll_cons_mk (shut_int Yba.underlying22 w1) (trodAll_cons_mk (shut_int Yba.underlying22 w2) (trodAll_cons_mk (shut_int Yba.underlying22 w3) (trodAll_cons_mk (shut_int Yba.underlying22 w4) (trodAll_cons_mk (shut_int Yba.underlying22 w5) (trodAll_cons_mk (shut_int Yba.underlying22 w6) trodAll_mk0)))))))) (fun _ _ => rfl) rfl
    (hg.frame _) hg.2.1 (ok_one (by kernel_rfl) rfl (okWide_bool_mk Yba.underlying4 _))⟩

theorem over : Rows.lawS5624BWholeRow.holds Yba.pinned (OpenSpec.ofChange Rows.lawS5624BWholeSpec) :=
  OpenClaim.holds_of_wide 3 Yba.f3 rfl rfl rfl rfl rfl rfl rfl ⟨rfl, rfl, rfl, rfl, rfl⟩ rfl rfl rfl rfl rfl (by kernel_rfl) Yba.func3 (by kernel_rfl)
    (of_decide_eq_true (by kernel_rfl)) (by unfold Func.isWrapper; first | (rw [if_pos (by decide +kernel)]; kernel_rfl) | (rw [if_neg (by decide +kernel)]; exact ⟨rfl, rfl⟩))
    (fun os started H enc _ => lifted os started H enc)

/-- ████ THE STATEMENT ████ -/
theorem proved : Rows.LawS5624BWholeSaid :=
  over
end Go.Proofs.Ybulkdlli.lawS5624BWhole
