/-
  The walk over timeline.withRoom.
-/
import Derived.Test.YbulkdljsTline
namespace Go.Proofs.Ybulkdljs
open Go.RowKit
attribute [local go_sem ↓] ld59_fold st59_fold zv79_fold
attribute [local go_sem] zv79_run ld59_whole whole_ok wstore_ok heapN heapP heapD setsN setsP setsD heapDN allocDN cellDN setsDN spl size_sets Value.oneCell'

set_option maxRecDepth 100000 in
set_option maxHeartbeats 2000000 in
/-- There is room. -/
theorem withRoom_none (X : Nat) (N M : Int) (Q : Int) (ao : Option Addr) (nb cap : Nat) (w : World) (c2 : w.cell? ⟨X, 2, none⟩ = some (.slice ao nb cap)) (c3 : w.cell? ⟨X, 3, none⟩ = some (.int .i64 N))
    (hN : 0 ≤ N) (hN' : N ≤ 1073741824) (hM : 0 ≤ M) (hM' : M ≤ 1073741824) (hQ : Int.tdiv (N + M + 1023) 1024 = Q) (hle : Q ≤ (nb : Int)) (hQ0 : 0 ≤ Q) (hnb : (nb : Int) ≤ 1073741824) :
    Calls Yba.prog 15 #[.pointer (some ⟨X, 2, none⟩), .int .i64 M] w fun e w' => e = .returned (.slice none 0 0) ∧ ∃ k, w' = w.drewN k := by
  obtain ⟨⟨_, j1⟩, ⟨_, j2⟩, ⟨_, j3⟩, _, j4⟩ := And.intro (wr64 (N + M) (by omega) (by omega)) (And.intro (wr64 (N + M + 1024) (by omega) (by omega)) (And.intro (wr64 (N + M + 1023) (by omega) (by omega)) (wr64 Q (by omega) (by omega))))
  have j5 : wrap64 (Q - (nb : Int)) = Q - (nb : Int) := IntWalk.wrap64_in _ (by omega)
  have j6 : N + M + 1024 - 1 = N + M + 1023 := by omega
  have j7 : Q - (nb : Int) ≤ 0 := by omega
  go_enter Yba.func15, Yba.ntmps15
  go_wp2
  go_quiet (fail)
  go_wp2
  go_ret
  exact ⟨rfl, _, rfl⟩

/-- The loop's world: j blocks more. -/
structure Wr (w : World) (ρ : Nat → Nat) (nb : Nat) (pl : List Plc) (j : Nat) (v : Value) (wr : World) (ρ' : Nat → Nat) (bl : List Nat) : Prop where
  fr : Fr (fun r => r = 102) ρ ρ' w wr
  tl : TL wr ρ' v bl pl
  len : bl.length = nb + j

theorem Wr.step {w : World} {ρ : Nat → Nat} {nb : Nat} {pl : List Plc} {j : Nat} {v : Value} {wr : World} {ρ' : Nat → Nat} {bl : List Nat} (h : Wr w ρ nb pl j v wr ρ' bl) {g cap : Nat} {wC w1 : World}
    (hwC : wC = (wr.alloc (.cells Z79 79)).alloc (.cells #[.pointer (some ⟨wr.heap.size, 0, none⟩)] 76))
    (hg : wC.grownBy w1 v.ownBlock) (hrow : w1.ownsRow 0 76 1 (.slice (some ⟨g, 0, none⟩) (nb + j + 1) cap) (nb + j + 1) (bl.map ptrB ++ [ptrB wr.heap.size])) (hgg : v.ownBlock = some g ∨ g = wr.heap.size + 1 + 1) (hlt : g < w1.heap.size) :
    Wr w ρ nb pl (j + 1) (.slice (some ⟨g, 0, none⟩) (nb + j + 1) cap) w1 (upd (upd ρ' wr.heap.size (1000 + bl.length)) g 102) (bl ++ [wr.heap.size]) := by
  have hsz : wC.heap.size = wr.heap.size + 1 + 1 := by rw [hwC]; simp
  have fC : Fr (fun r => r = 102) ρ' ρ' wr wC := by rw [hwC]; exact ((Fr.refl _ ρ' wr).alloc _).alloc _
  have oD : objAt wC wr.heap.size = some (.cells Z79 79 (0, 0)) := by rw [hwC]; exact (heapP _ _ _ (by simp)).trans (heapN _ _ _ (by simp))
  have e := h.len
  obtain ⟨F, T⟩ := h.tl.grow fC (Nat.le_refl _) oD hg (g := g) (cap := cap) (by rw [e]; exact hrow) (hgg.imp id (fun q => by rw [q, hsz])) hlt
  exact ⟨h.fr.trans F, by rw [e] at T ⊢; exact T, by simp; omega⟩

/-- What withRoom answers where blocks are added. -/
def WRes (w : World) (ρ : Nat → Nat) (m : Nat) (pl : List Plc) (e : Ending) (w' : World) : Prop :=
  ∃ g n cap ρ' bl', e = .returned (.slice (some ⟨g, 0, none⟩) n cap) ∧ Fr (fun r => r = 102) ρ ρ' w w' ∧ TL w' ρ' (.slice (some ⟨g, 0, none⟩) n cap) bl' pl ∧ bl'.length = m

set_option maxRecDepth 100000 in
set_option maxHeartbeats 2000000 in
/-- There is none: blocks are added past the timeline's own. -/
theorem withRoom_more (X : Nat) (N M : Int) (R : Nat) (ρ : Nat → Nat) (tv : Value) (bl : List Nat) (pl : List Plc) (nb : Nat) (hnbe : bl.length = nb) (w : World) (c2 : w.cell? ⟨X, 2, none⟩ = some tv) (c3 : w.cell? ⟨X, 3, none⟩ = some (.int .i64 N))
    (hT : TL w ρ tv bl pl) (hN : 0 ≤ N) (hN' : N ≤ 1073741824) (hM : 0 ≤ M) (hM' : M ≤ 1073741824) (hQ : Int.tdiv (N + M + 1023) 1024 = (nb : Int) + (R : Int)) (hR : 0 < R) (hnb : nb + R ≤ 1048576) :
    Calls Yba.prog 15 #[.pointer (some ⟨X, 2, none⟩), .int .i64 M] w (WRes w ρ (nb + R) pl) := by
  obtain ⟨i0, hi, hz0, hz1, hz2⟩ := info_parts info76
  obtain ⟨ao, cap, rfl⟩ := form_any hT.row
  rw [hnbe] at c2
  obtain ⟨Q, hQe⟩ : ∃ Q : Int, (nb : Int) + (R : Int) = Q := ⟨_, rfl⟩
  rw [hQe] at hQ
  have j6 : N + M + 1024 - 1 = N + M + 1023 := by omega
  obtain ⟨Rz, hRz⟩ : ∃ Rz : Int, Rz = (R : Int) := ⟨_, rfl⟩
  have j8 : Q - (nb : Int) = Rz := by omega
  have j7 : ¬ (Rz ≤ 0) := by omega
  obtain ⟨⟨_, j1⟩, ⟨_, j2⟩, ⟨_, j3⟩, ⟨_, j4⟩, _, j5⟩ := And.intro (wr64 (N + M) (by omega) (by omega)) (And.intro (wr64 (N + M + 1024) (by omega) (by omega)) (And.intro (wr64 (N + M + 1023) (by omega) (by omega)) (And.intro (wr64 Q (by omega) (by omega)) (wr64 Rz (by omega) (by omega)))))
  have I0 : ∀ k, Hid (Wr w ρ nb pl 0 (.slice ao nb cap) (w.drewN k) ρ bl) := fun k => ⟨(Fr.refl _ ρ w).drewN k, by rw [hnbe] at hT; exact hT.fr ((Fr.refl (fun _ => False) ρ w).drewN k) (fun h => h) (fun _ h => h), by simpa using hnbe⟩
  replace hQe := hid hQe
  replace hnbe := hid hnbe
  replace hRz := hid hRz
  replace hT := hid hT
  go_enter Yba.func15, Yba.ntmps15
  go_wp2
  go_quiet (fail)
  go_wp2
  go_loopw [6, 29] (fun v i wr => ∃ (j : Nat) (ρ' : Nat → Nat) (bl' : List Nat), j ≤ R ∧ i = .int .i64 j ∧ Hid (Wr w ρ nb pl j v wr ρ' bl')) (fun _ i _ => R - (intOf i).toNat)
  case atStart => exact ⟨0, _, _, Nat.zero_le _, rfl, I0 _⟩
  case round =>
    obtain ⟨j, ρ', bl', hj, rfl, I⟩ := hrel
    clear I0
    have I1 : Wr w ρ nb pl j _ wr ρ' bl' := I
    obtain ⟨nj, hnj⟩ : ∃ nj, nj = nb + j := ⟨_, rfl⟩
    have hlen : bl'.length = nj := by rw [hnj]; exact I1.len
    obtain ⟨ao', cap', hv⟩ := form_any I1.tl.row
    rw [hlen] at hv
    subst hv
    by_cases hlt : j < R
    · have k1 : (j : Int) < Rz := by have : Rz = (R : Int) := hRz; omega
      have k2 : (j : Int) + 1 ≤ 1073741824 := by omega
      have q1 : nj + 1 ≤ maxLen := by unfold maxLen; omega
      have q2 : (nj + 1) * 8 ≤ 140737488355328 := by omega
      have hrow : ∀ o1 o2, Hid (((wr.alloc o1).alloc o2).ownsRow 0 76 1 (.slice ao' nj cap') nj (bl'.map ptrB)) := fun o1 o2 => by
        have := I1.tl.row
        rw [hlen] at this
        exact (this.alloc _).alloc _
      replace I1 := hid I1
      replace hlen := hid hlen
      replace hnj := hid hnj
      go_wp2_with (at_builtin; refine wpList_append_lies _ (by rfl) (.tmp 31) (.tmp 33) 28 (by rfl) 0 76 i0 (.pointer none) 1 8 Yba.underlying28 hi hz0 hz1 hz2 rfl (by decide) (.slice ao' nj cap') nj (bl'.map ptrB) (by rfl) ?own ⟨wr.heap.size + 1, 0, none⟩ 1 1 [ptrB wr.heap.size] (by rfl) (by rfl) ?news ?one (by decide) q1 q2 (Nat.zero_le _) (wr.heap.size + 1 + 1) ?hH ?_)
      case own => exact hrow _ _
      case news => exact World.news_of_block (heapN _ _ _ (by simp))
      case one => intro u hu; simp at hu; subst hu; rfl
      case hH => simp
      intro g cap1 w1 hown hgr hat hlt1
      have I2 := Wr.step I1 rfl hgr (by rw [← show nj = nb + j from hnj]; exact hown) hat hlt1
      rw [← show nj = nb + j from hnj] at I2
      replace I2 := hid I2
      clear hgr hown hat hlt1 I1 hrow hi hz0 hz1 hz2
      go_wp2
      refine ⟨⟨j + 1, _, _, hlt, by simp, I2⟩, ?_⟩
      simp [intOf]
      omega
    · have k1 : ¬ ((j : Int) < Rz) := by have : Rz = (R : Int) := hRz; omega
      have hjR : j = R := by omega
      have hgf : 0 < nj := by omega
      have I3 := I1
      replace I1 := hid I1
      replace hlen := hid hlen
      replace hnj := hid hnj
      go_wp2
      go_ret
      obtain ⟨g, cap3, e3, _, _⟩ := I3.tl.row.form (by rw [show bl'.length = nj from hlen]; exact hgf)
      rw [show bl'.length = nj from hlen] at e3
      have e4 := I3.tl
      rw [e3] at e4
      exact ⟨g, nj, cap3, ρ', bl', by rw [← e3]; rfl, I3.fr, e4, by rw [← hjR]; exact I3.len⟩
end Go.Proofs.Ybulkdljs
