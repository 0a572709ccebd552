/-
  What the last loops of LawS5621BWhole lean on: the state behind applyInSteps.
-/
import Derived.Test.YbulkdljsLawOps
namespace Go.Proofs.Ybulkdljs
open Go.RowKit

/-- The state behind applyInSteps. -/
structure Q3 (w0 : World) (X mb EB : Nat) (M : Nat → Option Nat) (L : Nat → List Chg) (pl : List Plc) (rs : List Rk) (rh rc vk vr : Value) (w : World) (ρ : Nat → Nat) : Prop where
  fr : Fr (fun r => r ≠ 0) (fun _ => 0) ρ w0 w
  ix : Ix w ρ X mb M L pl ((pl.length + 1023) / 1024) (.slice none 0 0) rh rc
  r0 : R0 w ρ rh rc
  ex : Ex w ρ EB L
  pk : w.ownsRow 0 3 1 vk rs.length (keysOf rs)
  pr : w.ownsRow 0 49 2 vr rs.length (revsOf rs)
  pls : PlR M pl rs
  len : pl.length = rs.length
  iff : ∀ k, k < 5 → (M k = none ↔ L k = [])
  lenL : ∀ k, (L k).length ≤ 266240
  lenP : pl.length ≤ 266240

theorem Q3.keep {w0 : World} {X mb EB : Nat} {M : Nat → Option Nat} {L : Nat → List Chg} {pl : List Plc} {rs : List Rk} {rh rc vk vr : Value} {w : World} {ρ : Nat → Nat} (h : Q3 w0 X mb EB M L pl rs rh rc vk vr w ρ) {w' : World} (f : Fr (fun _ => False) ρ ρ w w') : Q3 w0 X mb EB M L pl rs rh rc vk vr w' ρ :=
  ⟨h.fr.trans (f.mono (fun _ e => e.elim)), h.ix.fr f (fun _ _ e => e), h.r0.fr f (fun e => e) (fun e => e), h.ex.fr f (fun e => e) (fun _ _ e => e), f.owns h.pk (fun _ _ e => e), f.owns h.pr (fun _ _ e => e), h.pls, h.len, h.iff, h.lenL, h.lenP⟩

/-- How many of the first k keys are there. -/
def cntTo (M : Nat → Option Nat) : Nat → Nat
  | 0 => 0
  | k + 1 => cntTo M k + (if (M k).isSome then 1 else 0)
theorem cntTo_five (M : Nat → Option Nat) : cntTo M 5 = count M := by
  unfold count
  have e : List.range 5 = [0, 1, 2, 3, 4] := by decide
  rw [e]
  simp only [cntTo, List.filter_cons, List.filter_nil]
  cases M 0 <;> cases M 1 <;> cases M 2 <;> cases M 3 <;> cases M 4 <;> rfl
theorem cntTo_le (M : Nat → Option Nat) : ∀ k, cntTo M k ≤ k
  | 0 => Nat.le_refl _
  | k + 1 => by
    have := cntTo_le M k
    simp only [cntTo]
    split <;> omega

/-- A row of changes at its i-th. -/
theorem row_at {w : World} {base g cap n : Nat} {l : List Chg} {c : Chg} {i : Nat} (h : w.ownsRow base 56 24 (.slice (some ⟨g, 0, none⟩) n cap) n (chgs l)) (hc : l[i]? = some c) : w.rangeAt g (i * 24) c.cells := by
  rcases h.2 with ⟨h1, _⟩ | ⟨g', cap', cur, h1, _, hg, _, _, _, h6⟩
  · cases h1
  · cases h1
    intro j v hv
    have hj : j < 24 := by have := (List.getElem?_eq_some_iff.1 hv).1; rwa [Chg.cells_length] at this
    rw [obj_cell hg]
    have e : (chgs l)[i * 24 + j]? = some v := by
      unfold chgs
      rw [flat_at Chg.cells 24 Chg.cells_length l i j c hc hj]
      exact hv
    rw [← h6, List.getElem?_take] at e
    split at e
    · rw [Array.getElem?_toList] at e
      exact e
    · cases e

/-- A place of the timeline, cell by cell. -/
theorem Ix.place {w : World} {ρ : Nat → Nat} {X mb : Nat} {M : Nat → Option Nat} {L : Nat → List Chg} {pl : List Plc} {nb : Nat} {rb rh rc : Value} (h : Ix w ρ X mb M L pl nb rb rh rc) {i : Nat} {p : Plc} (hp : pl[i]? = some p) :
    ∃ gt cap d, w.cell? ⟨X, 2, none⟩ = some (.slice (some ⟨gt, 0, none⟩) nb cap) ∧ w.cell? ⟨gt, i / 1024, none⟩ = some (.pointer (some ⟨d, 0, none⟩)) ∧ i / 1024 < nb ∧ w.rangeAt d (i % 1024 * 3) p.cells := by
  obtain ⟨rx, rm, map, his, non, tidy, ov, tv, bl, n, ho, hT, hl, hO, hn⟩ := h
  have hi : i < pl.length := (List.getElem?_eq_some_iff.1 hp).1
  have hroom := hT.room
  have hq : i / 1024 < bl.length := by omega
  obtain ⟨gt, cap, e, _, _⟩ := hT.row.form (by omega)
  subst e
  have hd : bl[i / 1024]? = some (bl[i / 1024]'hq) := List.getElem?_eq_getElem hq
  obtain ⟨_, A, hA, hs, hcells⟩ := hT.blk _ _ hd
  refine ⟨gt, cap, bl[i / 1024]'hq, by rw [← hl]; exact obj_cell ho 2, row_cell hT.row (by rw [List.getElem?_map, hd]; rfl), by omega, fun j v hv => ?_⟩
  have hj : j < 3 := (List.getElem?_eq_some_iff.1 hv).1
  rw [obj_cell hA, hcells (i % 1024) (Nat.mod_lt _ (by omega)) p (by rw [show i / 1024 * 1024 + i % 1024 = i by omega]; exact hp) j hj]
  exact hv

theorem revs_at {w : World} {base g cap n : Nat} {rs : List Rk} {r : Rk} {i : Nat} (h : w.ownsRow base 49 2 (.slice (some ⟨g, 0, none⟩) n cap) n (revsOf rs)) (hr : rs[i]? = some r) : w.rangeAt g (i * 2) r.revs := by
  rcases h.2 with ⟨h1, _⟩ | ⟨g', cap', cur, h1, _, hg, _, _, _, h6⟩
  · cases h1
  · cases h1
    intro j v hv
    have hj : j < 2 := (List.getElem?_eq_some_iff.1 hv).1
    rw [obj_cell hg]
    have e : (revsOf rs)[i * 2 + j]? = some v := by
      unfold revsOf
      rw [flat_at Rk.revs 2 (fun _ => rfl) rs i j r hr hj]
      exact hv
    rw [← h6, List.getElem?_take] at e
    split at e
    · rw [Array.getElem?_toList] at e
      exact e
    · cases e
end Go.Proofs.Ybulkdljs
