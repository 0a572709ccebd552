/-
  The walk over (*index).takeRoom.
-/
import Derived.Test.YbulkdljsJx
namespace Go.Proofs.Ybulkdljs
open Go.RowKit

theorem zero45' (w : World) : (zeroValue 45).run Yba.prog w = .ok (.pointer none) w := by kernel_rfl
theorem zero38 (w : World) : (zeroValue 38).run Yba.prog w = .ok (.slice none 0 0) w := by kernel_rfl

/-- clear of a row of its own: whatever it held. -/
theorem clear_row {w : World} {t e ty : TypeId} {z v : Value} {n : Nat} {xs : List Value} (ht : Yba.prog.underlying t = some (.slice e)) (hv : ∀ w, (zeroValue e).run Yba.prog w = .ok z w) (hz : z.cells = #[z]) (h1 : z.oneCell' = true) (hw : w.ownsRow 0 e 1 v n xs) :
    ∃ w' ao cap, v = .slice ao n cap ∧ (Builtin.clear_ #[t] ty #[v]).run Yba.prog w = .ok (.tuple #[]) w' ∧ w.grownBy w' v.ownBlock ∧ w'.ownsRow 0 e 1 (.slice ao 0 cap) 0 [] := by
  rcases hw.2 with ⟨rfl, rfl⟩ | ⟨g, cap, cur, rfl, _, hg, hnc, hcm, hcs, htk⟩
  · refine ⟨w, none, 0, rfl, ?_, ⟨rfl, rfl, rfl, Nat.le_refl _, fun _ _ _ => rfl⟩, ⟨rfl, .inl ⟨rfl, rfl⟩⟩⟩
    simp [Builtin.clear_, run_underlying ht]
  · rcases Nat.eq_zero_or_pos n with rfl | hn
    · refine ⟨w, some ⟨g, 0, none⟩, cap, rfl, ?_, ⟨rfl, rfl, rfl, Nat.le_refl _, fun _ _ _ => rfl⟩, ⟨rfl, .inr ⟨g, cap, cur, rfl, Nat.zero_le _, hg, Nat.zero_le _, hcm, hcs, rfl⟩⟩⟩
      simp [Builtin.clear_, run_underlying ht]
    · have hr := Lib.run_clear_slice (P := Yba.prog) w t e ty z ht hv hz h1 g 0 n cap hn (fun j hj => by rw [Nat.zero_add, obj_cell hg]; simp; omega) (fun j _ => obj_frozen hg _)
      refine ⟨_, some ⟨g, 0, none⟩, cap, rfl, hr, grown_sets _ _ _ _, ⟨rfl, .inr ⟨g, cap, _, rfl, Nat.zero_le _, obj_sets _ _ _ _ hg, Nat.zero_le _, hcm, by rw [spl_size, hcs], rfl⟩⟩⟩

/-- What lies in the room: keys ks, and at each its key's effective changes. -/
structure Rq (w : World) (ρ : Nat → Nat) (M : Nat → Option Nat) (E : Nat → Value) (rh rc : Value) (ks : List Nat) (vs : List Value) : Prop where
  h : w.ownsRow 0 45 1 rh ks.length (ks.map fun k => ptrOf (M k))
  hr : ∀ g, rh.ownBlock = some g → ρ g = 106
  c : w.ownsRow 0 38 1 rc vs.length vs
  cr : ∀ g, rc.ownBlock = some g → ρ g = 107
  len : vs.length = ks.length
  at' : ∀ (i k : Nat), ks[i]? = some k → k < 5 ∧ vs[i]? = some (E k) ∧ ∃ hb, M k = some hb

theorem Rq.fr {S : Nat → Prop} {w w' : World} {ρ ρ' : Nat → Nat} {M : Nat → Option Nat} {E : Nat → Value} {rh rc : Value} {ks : List Nat} {vs : List Value} (h : Rq w ρ M E rh rc ks vs) (f : Fr S ρ ρ' w w') (h1 : ¬ S 106) (h2 : ¬ S 107) : Rq w' ρ' M E rh rc ks vs :=
  ⟨f.owns h.h (fun g hg => by rw [h.hr g hg]; exact h1), f.roleOf h.h h.hr, f.owns h.c (fun g hg => by rw [h.cr g hg]; exact h2), f.roleOf h.c h.cr, h.len, h.at'⟩

/-- Empty rows of the room. -/
structure R0 (w : World) (ρ : Nat → Nat) (rh rc : Value) : Prop where
  h : w.ownsRow 0 45 1 rh 0 []
  hr : ∀ g, rh.ownBlock = some g → ρ g = 106
  c : w.ownsRow 0 38 1 rc 0 []
  cr : ∀ g, rc.ownBlock = some g → ρ g = 107

theorem R0.fr {S : Nat → Prop} {w w' : World} {ρ ρ' : Nat → Nat} {rh rc : Value} (h : R0 w ρ rh rc) (f : Fr S ρ ρ' w w') (h1 : ¬ S 106) (h2 : ¬ S 107) : R0 w' ρ' rh rc :=
  ⟨f.owns h.h (fun g hg => by rw [h.hr g hg]; exact h1), f.roleOf h.h h.hr, f.owns h.c (fun g hg => by rw [h.cr g hg]; exact h2), f.roleOf h.c h.cr⟩

/-- The loop of takeRoom: the first i of ks are in place. -/
structure Tk (w : World) (ρ : Nat → Nat) (X mb : Nat) (M : Nat → Option Nat) (L : Nat → List Chg) (pl : List Plc) (nb : Nat) (te : Value) (V E : Nat → Value) (ov rb rh rc : Value) (ks : List Nat) (vs : List Value) (i : Nat) (wr : World) (V' : Nat → Value) : Prop where
  fr : Fr (fun r => 100 ≤ r) ρ ρ w wr
  jx : Jx wr ρ X mb M L pl nb te V' E (fun _ => 0) ov te rb rh rc
  rq : Rq wr ρ M E rh rc ks vs
  done : ∀ (j k : Nat), j < i → ks[j]? = some k → V' k = E k
  rest : ∀ k, k ∉ ks → V' k = V k

theorem Tk.step {w : World} {ρ : Nat → Nat} {X mb : Nat} {M : Nat → Option Nat} {L : Nat → List Chg} {pl : List Plc} {nb : Nat} {te : Value} {V E : Nat → Value} {ov rb rh rc : Value} {ks : List Nat} {vs : List Value} {i : Nat} {wr : World} {V' : Nat → Value}
    (h : Tk w ρ X mb M L pl nb te V E ov rb rh rc ks vs i wr V') {k hb : Nat} (hk : ks[i]? = some k) (hM : M k = some hb) : Tk w ρ X mb M L pl nb te V E ov rb rh rc ks vs (i + 1) (wr.setCell ⟨hb, 1, none⟩ (E k)) (fun j => if j = k then E k else V' j) := by
  have hk5 := (h.rq.at' i k hk).1
  obtain ⟨f, J⟩ := h.jx.setH hk5 hM 1 (E k) (E k) 0 rfl
  refine ⟨h.fr.trans (f.mono (fun r e => by omega)), ?_, h.rq.fr f (by omega) (by omega), fun j k' hj hk' => ?_, fun k' hk' => ?_⟩
  · have e : (fun j => if j = k then (0 : Int) else (fun _ => 0) j) = fun _ => 0 := by funext j; simp
    rw [e] at J
    exact J
  · by_cases e : k' = k
    · rw [e]; simp
    · rw [if_neg e]
      refine h.done j k' ?_ hk'
      rcases Nat.lt_or_ge j i with q | q
      · exact q
      · obtain rfl : j = i := by omega
        rw [hk] at hk'
        exact absurd (Option.some.inj hk').symm e
  · have : k' ≠ k := fun e => hk' (by rw [e]; exact List.mem_of_getElem? hk)
    rw [if_neg this]
    exact h.rest k' hk'

def TkRes (w : World) (ρ : Nat → Nat) (X mb : Nat) (M : Nat → Option Nat) (L : Nat → List Chg) (pl : List Plc) (nb : Nat) (e : Ending) (w' : World) : Prop :=
  ∃ rh rc, e = .returned (.tuple #[]) ∧ Fr (fun r => 100 ≤ r) ρ ρ w w' ∧ Ix w' ρ X mb M L pl nb (.slice none 0 0) rh rc ∧ R0 w' ρ rh rc

/-- The end of takeRoom, as facts: behind the loop. -/
theorem take_end {w : World} {ρ : Nat → Nat} {X mb : Nat} {M : Nat → Option Nat} {L : Nat → List Chg} {pl : List Plc} {nb : Nat} {te : Value} {V E : Nat → Value} {ov rb rh rc : Value} {ks : List Nat} {vs : List Value} {wr : World} {V' : Nat → Value}
    (h : Tk w ρ X mb M L pl nb te V E ov rb rh rc ks vs ks.length wr V') (hEV : ∀ k hb, k < 5 → M k = some hb → k ∉ ks → E k = V k) :
    ∃ (w8 w9 : World) (ah ac : Option Addr) (ch cc : Nat), rh = .slice ah ks.length ch ∧ rc = .slice ac vs.length cc ∧
      (∀ ty, (Builtin.clear_ #[31] ty #[.slice ah ks.length ch]).run Yba.prog (wr.setCell ⟨X, 5, none⟩ (.slice none 0 0)) = .ok (.tuple #[]) w8) ∧ (∀ ty, (Builtin.clear_ #[32] ty #[.slice ac vs.length cc]).run Yba.prog w8 = .ok (.tuple #[]) w9) ∧
      (wr.cell? ⟨X, 5, none⟩ = some rb ∧ wr.frozen? ⟨X, 5, none⟩ = false ∧ wr.cell? ⟨X, 6, none⟩ = some (.slice ah ks.length ch)) ∧ w8.cell? ⟨X, 7, none⟩ = some (.slice ac vs.length cc) ∧
      (w9.cell? ⟨X, 6, none⟩ = some (.slice ah ks.length ch) ∧ w9.cell? ⟨X, 7, none⟩ = some (.slice ac vs.length cc) ∧ w9.frozen? ⟨X, 6, none⟩ = false ∧ w9.frozen? ⟨X, 7, none⟩ = false) ∧
      ∀ w', Same ((w9.setCell ⟨X, 6, none⟩ (.slice ah 0 ch)).setCell ⟨X, 7, none⟩ (.slice ac 0 cc)) w' → TkRes w ρ X mb M L pl nb (.returned (.tuple #[])) w' := by
  obtain ⟨f5, J5⟩ := h.jx.setX 5 (.slice none 0 0) te (.slice none 0 0) rh rc rfl
  have R5 := h.rq.fr f5 (by omega) (by omega)
  obtain ⟨w8, ah, ch, e8, hr8, hg8, ho8⟩ := clear_row (ty := 0) Yba.underlying31 zero45' rfl rfl R5.h
  have f8 : Fr (fun r => r = 106) ρ ρ (wr.setCell ⟨X, 5, none⟩ (.slice none 0 0)) w8 := (Fr.refl _ ρ _).grown hg8 (fun g e => R5.hr g e)
  have J8 := J5.fr f8 (fun r h1 h2 h3 => h2)
  have c8 := f8.owns R5.c (fun g hg => by rw [R5.cr g hg]; omega)
  obtain ⟨w9, ac, cc, e9, hr9, hg9, ho9⟩ := clear_row (ty := 0) Yba.underlying32 zero38 rfl rfl c8
  have f9 : Fr (fun r => r = 107) ρ ρ w8 w9 := (Fr.refl _ ρ _).grown hg9 (fun g e => R5.cr g e)
  have J9 := J8.fr f9 (fun r h1 h2 h3 => h3)
  obtain ⟨f10, J10⟩ := J9.setX 6 (.slice ah 0 ch) te (.slice none 0 0) (.slice ah 0 ch) rc rfl
  obtain ⟨f11, J11⟩ := J10.setX 7 (.slice ac 0 cc) te (.slice none 0 0) (.slice ah 0 ch) (.slice ac 0 cc) rfl
  have rh6 : ∀ g, (Value.slice ah 0 ch).ownBlock = some g → ρ g = 106 := fun g hg => R5.hr g (by rw [e8]; cases ah <;> exact hg)
  have rc7 : ∀ g, (Value.slice ac 0 cc).ownBlock = some g → ρ g = 107 := fun g hg => R5.cr g (by rw [e9]; cases ac <;> exact hg)
  refine ⟨w8, w9, ah, ac, ch, cc, e8, e9, fun ty => by rw [← e8]; exact hr8, fun ty => by rw [← e9]; exact hr9, ⟨obj_cell h.jx.ho 5, obj_frozen h.jx.ho 5, by rw [← e8]; exact obj_cell h.jx.ho 6⟩, by rw [← e9]; exact obj_cell J8.ho 7,
    ⟨by rw [← e8]; exact obj_cell J9.ho 6, by rw [← e9]; exact obj_cell J9.ho 7, obj_frozen J9.ho 6, obj_frozen J9.ho 7⟩, fun w' hs => ?_⟩
  have fs : Fr (fun _ => False) ρ ρ ((w9.setCell ⟨X, 6, none⟩ (.slice ah 0 ch)).setCell ⟨X, 7, none⟩ (.slice ac 0 cc)) w' := ⟨hs.os, hs.tape, hs.output, by rw [hs.heap]; exact Nat.le_refl _, fun b _ _ => by rw [hs.heap], fun _ _ => rfl, fun ht b hb => ht b (by rw [← hs.heap]; exact hb)⟩
  have fx : Fr (fun r => r = 100) ρ ρ w9 ((w9.setCell ⟨X, 6, none⟩ (.slice ah 0 ch)).setCell ⟨X, 7, none⟩ (.slice ac 0 cc)) := f10.trans f11
  refine ⟨_, _, rfl, h.fr.trans ((f5.mono (fun r e => by omega)).trans ((f8.mono (fun r e => by omega)).trans ((f9.mono (fun r e => by omega)).trans ((fx.mono (fun r e => by omega)).trans (fs.mono (fun _ e => e.elim)))))),
    (J11.fr fs (fun _ _ _ _ e => e)).toI (fun k hb hk hM => ?_) (fun _ _ _ _ => rfl), ?_⟩
  · by_cases hm : k ∈ ks
    · obtain ⟨j, hj⟩ := List.mem_iff_getElem?.1 hm
      exact (h.done j k (List.getElem?_eq_some_iff.1 hj).1 hj).symm
    · rw [hEV k hb hk hM hm, h.rest k hm]
  · have r9 : R0 w9 ρ (.slice ah 0 ch) (.slice ac 0 cc) := ⟨f9.owns ho8 (fun g hg => by rw [rh6 g hg]; omega), rh6, ho9, rc7⟩
    exact (r9.fr fx (by omega) (by omega)).fr fs (fun e => e) (fun e => e)

set_option maxRecDepth 100000 in
set_option maxHeartbeats 2000000 in
/-- takeRoom where the timeline had the room. -/
theorem take_nil (ρ : Nat → Nat) (X mb : Nat) (M : Nat → Option Nat) (L : Nat → List Chg) (pl : List Plc) (nb : Nat) (V E : Nat → Value) (ov tv rh rc : Value) (ks : List Nat) (vs : List Value) (w : World)
    (hJ : Jx w ρ X mb M L pl nb tv V E (fun _ => 0) ov tv (.slice none 0 0) rh rc) (hR : Rq w ρ M E rh rc ks vs) (hEV : ∀ k hb, k < 5 → M k = some hb → k ∉ ks → E k = V k) (hks : ks.length ≤ 1048576) :
    Calls Yba.prog 13 #[.pointer (some ⟨X, 0, none⟩), .pointer (some ⟨X, 5, none⟩)] w (TkRes w ρ X mb M L pl nb) := by
  have q28 : ∀ (w : World) (a : Option Addr) (n c n' c' : Nat), (binOp .neq 28 (.slice a n c) (.slice none n' c')).run Yba.prog w = .ok (.bool (!a.isNone)) w := fun w a n c n' c' => run_neq_slice_nil_any w _ _ a n c n' c' Yba.underlying28
  obtain ⟨ah0, ch0, eh0⟩ := form_any hR.h
  obtain ⟨ac0, cc0, ec0⟩ := form_any hR.c
  subst eh0 ec0
  have m0 : w.cell? ⟨X, 2, none⟩ = some tv := obj_cell hJ.ho 2
  have m1 : w.frozen? ⟨X, 2, none⟩ = false := obj_frozen hJ.ho 2
  have m5 := obj_cell hJ.ho 5
  have m6 : w.cell? ⟨X, 6, none⟩ = some (.slice ah0 ks.length ch0) := obj_cell hJ.ho 6
  have A0 : Tk w ρ X mb M L pl nb tv V E ov (.slice none 0 0) (.slice ah0 ks.length ch0) (.slice ac0 vs.length cc0) ks vs 0 w V := ⟨Fr.refl _ _ _, hJ, hR, fun j k h => by omega, fun _ _ => rfl⟩
  obtain ⟨nk, hnk⟩ : ∃ nk, ks.length = nk := ⟨_, rfl⟩
  obtain ⟨nv, hnv⟩ : ∃ nv, vs.length = nv := ⟨_, rfl⟩
  have hnn : nv = nk := by rw [← hnk, ← hnv]; exact hR.len
  subst hnn
  rw [hnk] at m6
  replace A0 := hid A0
  replace hnk := hid hnk
  replace hnv := hid hnv
  replace hJ := hid hJ
  replace hR := hid hR
  replace hEV := hid hEV
  replace hks : Hid (ks.length ≤ 1048576) := hks
  go_enter Yba.func13, Yba.ntmps13
  go_wp2
  go_loopw [24] (fun v wr => ∃ (i : Nat) (V' : Nat → Value), i ≤ nv ∧ v = .int .i64 i ∧ Hid (Tk w ρ X mb M L pl nb tv V E ov (.slice none 0 0) (.slice ah0 ks.length ch0) (.slice ac0 vs.length cc0) ks vs i wr V')) (fun v _ => nv - (intOf v).toNat)
  case atStart => exact ⟨0, _, Nat.zero_le _, rfl, A0⟩
  case round =>
    obtain ⟨i, V', hi, rfl, A⟩ := hrel
    clear A0
    have A1 : Tk w ρ X mb M L pl nb tv V E ov (.slice none 0 0) (.slice ah0 ks.length ch0) (.slice ac0 vs.length cc0) ks vs i wr V' := A
    by_cases hlt : i < nv
    · have k1 : (i : Int) < (nv : Int) := by omega
      have k2 : (i : Int) + 1 ≤ 1048576 := by have h1 : ks.length = nv := hnk; have h2 : ks.length ≤ 1048576 := hks; omega
      have k3 : (0 : Int) ≤ (i : Int) := by omega
      have hkl : ks.length = nv := hnk
      have hvl : vs.length = nv := hnv
      have hik : ks[i]? = some (ks[i]'(by omega)) := List.getElem?_eq_getElem (by omega)
      obtain ⟨k, hk⟩ : ∃ k, k = ks[i]'(by omega) := ⟨_, rfl⟩
      rw [← hk] at hik
      obtain ⟨hk5, hvi, hb, hM⟩ := A1.rq.at' i k hik
      obtain ⟨g6, c6, e6, _, _⟩ := A1.rq.h.form (by omega)
      obtain ⟨g7, c7, e7, _, _⟩ := A1.rq.c.form (by omega)
      cases e6
      cases e7
      have y1 : wr.cell? ⟨g6, i, none⟩ = some (.pointer (some ⟨hb, 0, none⟩)) := row_cell A1.rq.h (by rw [List.getElem?_map, hik, Option.map_some, hM]; rfl)
      have y2 : wr.cell? ⟨X, 7, none⟩ = some (.slice (some ⟨g7, 0, none⟩) nv cc0) := by
        have := obj_cell A1.jx.ho 7
        rw [hvl] at this
        exact this
      have y3 : wr.cell? ⟨g7, i, none⟩ = some (E k) := row_cell A1.rq.c hvi
      have y4 : wr.cell? ⟨hb, 1, none⟩ = some (V' k) := obj_cell (A1.jx.hob k hb hk5 hM) 1
      have y5 : wr.frozen? ⟨hb, 1, none⟩ = false := obj_frozen (A1.jx.hob k hb hk5 hM) 1
      obtain ⟨ae, ce, hE⟩ := form_any (A1.jx.hw k hb hk5 hM)
      have B := A1.step hik hM
      rw [hE] at y3 B
      replace B := hid B
      replace A1 := hid A1
      replace hkl := hid hkl
      replace hvl := hid hvl
      replace hik := hid hik
      replace hk := hid hk
      replace hvi := hid hvi
      replace hM := hid hM
      replace hE := hid hE
      go_wp2
      refine ⟨⟨i + 1, _, hlt, by simp, B⟩, ?_⟩
      simp [intOf]
      omega
    · have k1 : ¬ ((i : Int) < (nv : Int)) := by omega
      have hin : i = ks.length := by rw [show ks.length = nv from hnk]; omega
      rw [hin] at A1
      obtain ⟨w8, w9, ah, ac, ch, cc, e1, e2, hc1, hc2, ⟨z1, z2, z3⟩, z4, ⟨z5, z6, z7, z8⟩, fin⟩ := take_end A1 hEV
      cases e1
      cases e2
      rw [show ks.length = nv from hnk] at hc1 z3 z5
      rw [show vs.length = nv from hnv] at hc2 z4 z6
      replace fin := hid fin
      replace A1 := hid A1
      replace hin := hid hin
      go_wp2
      go_region
      all_goals go_wp2
      all_goals refine bodyPost_end (results_none rfl _ _ _) rfl ?_
      all_goals exact fin _ ⟨rfl, rfl, rfl, rfl⟩
set_option maxRecDepth 100000 in
set_option maxHeartbeats 2000000 in
/-- takeRoom where the timeline takes blocks out of the room. -/
theorem take_some (ρ : Nat → Nat) (X mb : Nat) (M : Nat → Option Nat) (L : Nat → List Chg) (pl : List Plc) (nb : Nat) (V E : Nat → Value) (ov tv rh rc : Value) (bg bn bc : Nat) (ks : List Nat) (vs : List Value) (w : World)
    (hJ : Jx w ρ X mb M L pl nb (.slice (some ⟨bg, 0, none⟩) bn bc) V E (fun _ => 0) ov tv (.slice (some ⟨bg, 0, none⟩) bn bc) rh rc) (hR : Rq w ρ M E rh rc ks vs) (hEV : ∀ k hb, k < 5 → M k = some hb → k ∉ ks → E k = V k) (hks : ks.length ≤ 1048576) :
    Calls Yba.prog 13 #[.pointer (some ⟨X, 0, none⟩), .pointer (some ⟨X, 5, none⟩)] w (TkRes w ρ X mb M L pl nb) := by
  have q28 : ∀ (w : World) (a : Option Addr) (n c n' c' : Nat), (binOp .neq 28 (.slice a n c) (.slice none n' c')).run Yba.prog w = .ok (.bool (!a.isNone)) w := fun w a n c n' c' => run_neq_slice_nil_any w _ _ a n c n' c' Yba.underlying28
  obtain ⟨ah0, ch0, eh0⟩ := form_any hR.h
  obtain ⟨ac0, cc0, ec0⟩ := form_any hR.c
  subst eh0 ec0
  have m0 : w.cell? ⟨X, 2, none⟩ = some tv := obj_cell hJ.ho 2
  have m1 : w.frozen? ⟨X, 2, none⟩ = false := obj_frozen hJ.ho 2
  have m5 := obj_cell hJ.ho 5
  have m6 : w.cell? ⟨X, 6, none⟩ = some (.slice ah0 ks.length ch0) := obj_cell hJ.ho 6
  obtain ⟨W, hW⟩ : ∃ W, W = w.setCell ⟨X, 2, none⟩ (.slice (some ⟨bg, 0, none⟩) bn bc) := ⟨_, rfl⟩
  obtain ⟨fW, JW⟩ := hJ.setX 2 (.slice (some ⟨bg, 0, none⟩) bn bc) (.slice (some ⟨bg, 0, none⟩) bn bc) (.slice (some ⟨bg, 0, none⟩) bn bc) _ _ rfl
  rw [← hW] at fW JW
  have A0 : Tk W ρ X mb M L pl nb (.slice (some ⟨bg, 0, none⟩) bn bc) V E ov (.slice (some ⟨bg, 0, none⟩) bn bc) (.slice ah0 ks.length ch0) (.slice ac0 vs.length cc0) ks vs 0 W V := ⟨Fr.refl _ _ _, JW, hR.fr fW (by omega) (by omega), fun j k h => by omega, fun _ _ => rfl⟩
  have toW : ∀ e w', TkRes W ρ X mb M L pl nb e w' → TkRes w ρ X mb M L pl nb e w' := fun e w' ⟨rh, rc, h1, h2, h3⟩ => ⟨rh, rc, h1, (fW.mono (fun r e => by omega)).trans h2, h3⟩
  replace fW := hid fW
  replace JW := hid JW
  replace hW := hid hW
  replace toW := hid toW
  obtain ⟨nk, hnk⟩ : ∃ nk, ks.length = nk := ⟨_, rfl⟩
  obtain ⟨nv, hnv⟩ : ∃ nv, vs.length = nv := ⟨_, rfl⟩
  have hnn : nv = nk := by rw [← hnk, ← hnv]; exact hR.len
  subst hnn
  rw [hnk] at m6
  replace A0 := hid A0
  replace hnk := hid hnk
  replace hnv := hid hnv
  replace hJ := hid hJ
  replace hR := hid hR
  replace hEV := hid hEV
  replace hks : Hid (ks.length ≤ 1048576) := hks
  go_enter Yba.func13, Yba.ntmps13
  go_wp2
  rw [← hW]
  go_loopw [24] (fun v wr => ∃ (i : Nat) (V' : Nat → Value), i ≤ nv ∧ v = .int .i64 i ∧ Hid (Tk W ρ X mb M L pl nb (.slice (some ⟨bg, 0, none⟩) bn bc) V E ov (.slice (some ⟨bg, 0, none⟩) bn bc) (.slice ah0 ks.length ch0) (.slice ac0 vs.length cc0) ks vs i wr V')) (fun v _ => nv - (intOf v).toNat)
  case atStart => exact ⟨0, _, Nat.zero_le _, rfl, A0⟩
  case round =>
    obtain ⟨i, V', hi, rfl, A⟩ := hrel
    clear A0
    have A1 : Tk W ρ X mb M L pl nb (.slice (some ⟨bg, 0, none⟩) bn bc) V E ov (.slice (some ⟨bg, 0, none⟩) bn bc) (.slice ah0 ks.length ch0) (.slice ac0 vs.length cc0) ks vs i wr V' := A
    by_cases hlt : i < nv
    · have k1 : (i : Int) < (nv : Int) := by omega
      have k2 : (i : Int) + 1 ≤ 1048576 := by have h1 : ks.length = nv := hnk; have h2 : ks.length ≤ 1048576 := hks; omega
      have k3 : (0 : Int) ≤ (i : Int) := by omega
      have hkl : ks.length = nv := hnk
      have hvl : vs.length = nv := hnv
      have hik : ks[i]? = some (ks[i]'(by omega)) := List.getElem?_eq_getElem (by omega)
      obtain ⟨k, hk⟩ : ∃ k, k = ks[i]'(by omega) := ⟨_, rfl⟩
      rw [← hk] at hik
      obtain ⟨hk5, hvi, hb, hM⟩ := A1.rq.at' i k hik
      obtain ⟨g6, c6, e6, _, _⟩ := A1.rq.h.form (by omega)
      obtain ⟨g7, c7, e7, _, _⟩ := A1.rq.c.form (by omega)
      cases e6
      cases e7
      have y1 : wr.cell? ⟨g6, i, none⟩ = some (.pointer (some ⟨hb, 0, none⟩)) := row_cell A1.rq.h (by rw [List.getElem?_map, hik, Option.map_some, hM]; rfl)
      have y2 : wr.cell? ⟨X, 7, none⟩ = some (.slice (some ⟨g7, 0, none⟩) nv cc0) := by
        have := obj_cell A1.jx.ho 7
        rw [hvl] at this
        exact this
      have y3 : wr.cell? ⟨g7, i, none⟩ = some (E k) := row_cell A1.rq.c hvi
      have y4 : wr.cell? ⟨hb, 1, none⟩ = some (V' k) := obj_cell (A1.jx.hob k hb hk5 hM) 1
      have y5 : wr.frozen? ⟨hb, 1, none⟩ = false := obj_frozen (A1.jx.hob k hb hk5 hM) 1
      obtain ⟨ae, ce, hE⟩ := form_any (A1.jx.hw k hb hk5 hM)
      have B := A1.step hik hM
      rw [hE] at y3 B
      replace B := hid B
      replace A1 := hid A1
      replace hkl := hid hkl
      replace hvl := hid hvl
      replace hik := hid hik
      replace hk := hid hk
      replace hvi := hid hvi
      replace hM := hid hM
      replace hE := hid hE
      go_wp2
      refine ⟨⟨i + 1, _, hlt, by simp, B⟩, ?_⟩
      simp [intOf]
      omega
    · have k1 : ¬ ((i : Int) < (nv : Int)) := by omega
      have hin : i = ks.length := by rw [show ks.length = nv from hnk]; omega
      rw [hin] at A1
      obtain ⟨w8, w9, ah, ac, ch, cc, e1, e2, hc1, hc2, ⟨z1, z2, z3⟩, z4, ⟨z5, z6, z7, z8⟩, fin⟩ := take_end A1 hEV
      cases e1
      cases e2
      rw [show ks.length = nv from hnk] at hc1 z3 z5
      rw [show vs.length = nv from hnv] at hc2 z4 z6
      replace fin := hid fin
      replace A1 := hid A1
      replace hin := hid hin
      go_wp2
      go_region
      all_goals go_wp2
      all_goals refine bodyPost_end (results_none rfl _ _ _) rfl ?_
      all_goals exact toW _ _ (fin _ ⟨rfl, rfl, rfl, rfl⟩)
end Go.Proofs.Ybulkdljs
