/-
  The index whole: one predicate over its parts, and what historyOf and the timeline's append do to it.
-/
import Derived.Test.YbulkdljsHist
import Derived.Test.YbulkdljsRoom
import Derived.Test.YbulkdljsChange
namespace Go.Proofs.Ybulkdljs
open Go.RowKit

/-- The histories that the map leads to. -/
def InM (M : Nat → Option Nat) (b : Nat) : Prop := ∃ j, j < 5 ∧ M j = some b

/-- A history: its key, its changes, its room. -/
structure His (w : World) (ρ : Nat → Nat) (k hb : Nat) (l : List Chg) (rm : Int) : Prop where
  role : ρ hb = 110 + k
  ex : ∃ v, objAt w hb = some (.cells #[.string (keyS k), v, .int .i64 rm] 47 (0, 0)) ∧ w.ownsRow 0 56 24 v l.length (chgs l) ∧ ∀ g, v.ownBlock = some g → ρ g = 120 + k

theorem His.fr {S : Nat → Prop} {ρ ρ' : Nat → Nat} {w w' : World} {k hb : Nat} {l : List Chg} {rm : Int} (h : His w ρ k hb l rm) (f : Fr S ρ ρ' w w') (h1 : ¬ S (110 + k)) (h2 : ¬ S (120 + k)) : His w' ρ' k hb l rm := by
  obtain ⟨hr, v, ho, hw, he⟩ := h
  exact ⟨by rw [f.role _ (obj_lt ho)]; exact hr, v, f.obj ho (by rw [hr]; exact h1), f.owns hw (fun g hg => by rw [he g hg]; exact h2), f.roleOf hw he⟩

theorem His.key {w : World} {ρ : Nat → Nat} {k hb : Nat} {l : List Chg} {rm : Int} (h : His w ρ k hb l rm) : w.cell? ⟨hb, 0, none⟩ = some (.string (keyS k)) := by
  obtain ⟨_, v, ho, _⟩ := h
  exact obj_cell ho 0

/-- THE INDEX at block X, its map at mb. -/
structure Ix (w : World) (ρ : Nat → Nat) (X mb : Nat) (M : Nat → Option Nat) (L : Nat → List Chg) (pl : List Plc) (nb : Nat) (rb rh rc : Value) : Prop where
  rx : ρ X = 100
  rm : ρ mb = 101
  map : MapIs w mb M
  his : ∀ k hb, k < 5 → M k = some hb → His w ρ k hb (L k) 0
  non : ∀ k, k < 5 → M k = none → L k = []
  tidy : ∀ b, w.heap.size ≤ b → ρ b = 0
  x : ∃ ov tv bl n, objAt w X = some (.cells #[.map (some mb), ov, tv, .int .i64 (pl.length : Int), .bool false, rb, rh, rc] 36 (0, 0)) ∧ TL w ρ tv bl pl ∧ bl.length = nb ∧ Ord w ρ (InM M) ov n ∧ n ≤ count M

theorem Ix.fr {S : Nat → Prop} {ρ ρ' : Nat → Nat} {w w' : World} {X mb : Nat} {M : Nat → Option Nat} {L : Nat → List Chg} {pl : List Plc} {nb : Nat} {rb rh rc : Value} (h : Ix w ρ X mb M L pl nb rb rh rc) (f : Fr S ρ ρ' w w') (hS : ∀ r, 100 ≤ r → ¬ S r) : Ix w' ρ' X mb M L pl nb rb rh rc := by
  obtain ⟨rx, rm, map, his, non, tidy, ov, tv, bl, n, ho, hT, hl, hO, hn⟩ := h
  exact ⟨by rw [f.role _ (obj_lt ho)]; exact rx, by rw [f.role _ map.lt]; exact rm, map.fr f (by rw [rm]; exact hS _ (by omega)),
    fun k hb hk hM => (his k hb hk hM).fr f (hS _ (by omega)) (hS _ (by omega)), non, f.tidy tidy, ov, tv, bl, n, f.obj ho (by rw [rx]; exact hS _ (by omega)), hT.fr f (hS _ (by omega)) (fun i => hS _ (by omega)), hl, hO.fr f (hS _ (by omega)) (hS _ (by omega)) (fun _ h => h), hn⟩

/-- historyOf, over the index. -/
def HoRes (w : World) (ρ : Nat → Nat) (X mb k : Nat) (M : Nat → Option Nat) (L : Nat → List Chg) (pl : List Plc) (nb : Nat) (rb rh rc : Value) (e : Ending) (w' : World) : Prop :=
  ∃ ρ' M' hb, e = .returned (.pointer (some ⟨hb, 0, none⟩)) ∧ Fr (fun r => 100 ≤ r ∧ r ≠ 106 ∧ r ≠ 107) ρ ρ' w w' ∧ Ix w' ρ' X mb M' L pl nb rb rh rc ∧ M' k = some hb ∧ (∀ j b, M j = some b → M' j = some b) ∧ (∀ j, j ≠ k → M' j = M j)

theorem setM_ext {M : Nat → Option Nat} {k b : Nat} (h : M k = none) : ∀ j c, M j = some c → setM M k b j = some c := fun j c hj => by
  unfold setM
  rw [if_neg (fun e => by rw [e, h] at hj; cases hj)]
  exact hj

theorem historyOf_any (ρ : Nat → Nat) (X mb k : Nat) (kv : Value) (M : Nat → Option Nat) (L : Nat → List Chg) (pl : List Plc) (nb : Nat) (rb rh rc : Value) (w : World) (hk : k < 5) (h : Ix w ρ X mb M L pl nb rb rh rc) (hkv : KeyAt w kv k) :
    Calls Yba.prog 17 #[.pointer (some ⟨X, 0, none⟩), kv] w (HoRes w ρ X mb k M L pl nb rb rh rc) := by
  obtain ⟨rx, rm, map, his, non, tidy, ov, tv, bl, n, ho, hT, hl, hO, hn⟩ := id h
  cases hM : M k with
  | some hb =>
    refine (historyOf_some X mb k hb kv M w hk (obj_cell ho 0) map hM (fun m => ?_)).mono ?_
    · obtain ⟨b, cap, e, hc⟩ := hkv
      exact KeyAt.conv ⟨b, cap, e, hc⟩
    · rintro e w' ⟨rfl, m, rfl⟩
      exact ⟨ρ, M, hb, rfl, (Fr.refl _ ρ w).drewN m, h.fr ((Fr.refl (fun _ => False) ρ w).drewN m) (fun _ _ h => h), hM, fun _ _ h => h, fun _ _ => rfl⟩
  | none =>
    refine (historyOf_none ρ X mb k _ ov n kv M w hk (by have := count_le M; omega) ho rfl rfl rfl rx rm hO (fun j b hj hb => ⟨(his j b hj hb).role, _, (his j b hj hb).key⟩) map hM hkv).mono ?_
    rintro e w' ⟨ρ', n', ov', hb, rfl, hn', hnew, hr, hf, hmap, hob, hox, hord⟩
    have hcnt := count_set M k hb hk hM
    refine ⟨ρ', setM M k hb, hb, rfl, hf.mono (fun r h => by omega), ⟨(hf.role _ (obj_lt ho)).trans rx, (hf.role _ map.lt).trans rm, hmap, fun j c hj hc => ?_, fun j hj hc => ?_, hf.tidy tidy, ov', tv, bl, n', hox, hT.fr hf (by omega) (fun i => by omega), hl, hord, by omega⟩, by simp [setM], setM_ext hM, fun j hj => by simp [setM, hj]⟩
    · by_cases e : j = k
      · subst e
        have : c = hb := by simpa [setM] using hc.symm
        subst this
        rw [non j hj hM]
        exact ⟨hr, _, hob, ⟨rfl, .inl ⟨rfl, rfl⟩⟩, fun g hg => by simp [Value.ownBlock] at hg⟩
      · have hc' : M j = some c := by simpa [setM, e] using hc
        exact (his j c hj hc').fr hf (by omega) (by omega)
    · by_cases e : j = k
      · simp [setM, e] at hc
      · exact non j hj (by simpa [setM, e] using hc)

/-- The timeline's append, over the index. -/
def TaRes (w : World) (ρ : Nat → Nat) (X mb : Nat) (M : Nat → Option Nat) (L : Nat → List Chg) (pl : List Plc) (nb : Nat) (rb rh rc : Value) (e : Ending) (w' : World) : Prop :=
  ∃ ρ', e = .returned (.tuple #[]) ∧ Fr (fun r => 100 ≤ r ∧ r ≠ 106 ∧ r ≠ 107) ρ ρ' w w' ∧ Ix w' ρ' X mb M L pl nb rb rh rc

theorem tappend_any (ρ : Nat → Nat) (X mb : Nat) (M : Nat → Option Nat) (L : Nat → List Chg) (pl : List Plc) (p : Plc) (nb : Nat) (rb rh rc : Value) (w : World) (hnb : nb < 1048576) (h : Ix w ρ X mb M L pl nb rb rh rc) :
    Calls Yba.prog 6 #[.pointer (some ⟨X, 2, none⟩), .agg #[.int .i64 p.main, .int .i64 p.sub, .pointer (some ⟨p.h, 0, none⟩)]] w
      (TaRes w ρ X mb M L (pl ++ [p]) (if pl.length = nb * 1024 then nb + 1 else nb) rb rh rc) := by
  obtain ⟨rx, rm, map, his, non, tidy, ov, tv, bl, n, ho, hT, hl, hO, hn⟩ := id h
  have hroom := hT.room
  have el : ((pl ++ [p]).length : Int) = (pl.length : Int) + 1 := by simp
  by_cases hfull : pl.length = nb * 1024
  · rw [if_pos hfull]
    refine (append_grow X _ ρ tv bl pl p pl.length w rfl ho rfl rfl rx hT tidy (by rw [hl]; exact hfull) (by rw [hl]; exact hnb)).mono ?_
    rintro e w' ⟨rfl, ρ', tv', D, hf, hox, hT'⟩
    refine ⟨ρ', rfl, hf.mono (fun r h => by omega), (hf.role _ (obj_lt ho)).trans rx, (hf.role _ map.lt).trans rm, map.fr hf (by omega), fun j c hj hc => (his j c hj hc).fr hf (by omega) (by omega), non, hf.tidy tidy, ov, tv', _, n, ?_, hT', by simp [hl], hO.fr hf (by omega) (by omega) (fun _ h => h), hn⟩
    rw [el]; exact hox
  · rw [if_neg hfull]
    refine (append_room X _ ρ tv bl pl p pl.length w rfl ho rfl rfl rx hT (by rw [hl] at hroom ⊢; exact Nat.lt_of_le_of_ne hroom hfull) (by rw [hl]; exact Nat.le_of_lt hnb)).mono ?_
    rintro e w' ⟨rfl, hf, hox, hT'⟩
    refine ⟨ρ, rfl, hf.mono (fun r h => by omega), (hf.role _ (obj_lt ho)).trans rx, (hf.role _ map.lt).trans rm, map.fr hf (by omega), fun j c hj hc => (his j c hj hc).fr hf (by omega) (by omega), non, hf.tidy tidy, ov, tv, bl, n, ?_, hT', hl, hO.fr hf (by omega) (by omega) (fun _ h => h), hn⟩
    rw [el]; exact hox

/-- One history's changes are other ones now. -/
theorem Ix.change {ρ ρ' : Nat → Nat} {w w' : World} {X mb : Nat} {M : Nat → Option Nat} {L : Nat → List Chg} {pl : List Plc} {nb : Nat} {rb rh rc : Value} (h : Ix w ρ X mb M L pl nb rb rh rc) {k hb : Nat} (hk : k < 5) (hM : M k = some hb) {l' : List Chg}
    (f : Fr (fun r => r = 110 + k ∨ r = 120 + k) ρ ρ' w w') (hh : His w' ρ' k hb l' 0) : Ix w' ρ' X mb M (fun j => if j = k then l' else L j) pl nb rb rh rc := by
  obtain ⟨rx, rm, map, his, non, tidy, ov, tv, bl, n, ho, hT, hl, hO, hn⟩ := h
  refine ⟨(f.role _ (obj_lt ho)).trans rx, (f.role _ map.lt).trans rm, map.fr f (by omega), fun j c hj hc => ?_, fun j hj hc => ?_, f.tidy tidy, ov, tv, bl, n, f.obj ho (by omega), hT.fr f (by omega) (fun i => by omega), hl, hO.fr f (by omega) (by omega) (fun _ h => h), hn⟩
  · by_cases e : j = k
    · subst e
      rw [hM] at hc
      cases hc
      rw [if_pos rfl]
      exact hh
    · rw [if_neg e]
      exact (his j c hj hc).fr f (by omega) (by omega)
  · rw [if_neg (fun e => by rw [e, hM] at hc; cases hc)]
    exact non j hj hc

/-- 'h.changes = append(h.changes, c)': what it leaves. -/
theorem his_push {w w5 wC : World} {ρ : Nat → Nat} {k hb g cap : Nat} {v : Value} {l : List Chg} {c : Chg} (hk : ρ hb = 110 + k) (ho : objAt w hb = some (.cells #[.string (keyS k), v, .int .i64 0] 47 (0, 0))) (hg : ∀ g, v.ownBlock = some g → ρ g = 120 + k)
    (fC : Fr (fun r => r = 120 + k) ρ ρ w wC) (hgr : wC.grownBy w5 v.ownBlock)
    (hown : w5.ownsRow 0 56 24 (.slice (some ⟨g, 0, none⟩) (l.length + 1) cap) (l.length + 1) (chgs l ++ c.cells)) (hat : v.ownBlock = some g ∨ wC.heap.size ≤ g) (hlt : g < w5.heap.size) :
    Fr (fun r => r = 110 + k ∨ r = 120 + k) ρ (upd ρ g (120 + k)) w (w5.setCell ⟨hb, 1, none⟩ (.slice (some ⟨g, 0, none⟩) (l.length + 1) cap)) ∧
      His (w5.setCell ⟨hb, 1, none⟩ (.slice (some ⟨g, 0, none⟩) (l.length + 1) cap)) (upd ρ g (120 + k)) k hb (l ++ [c]) 0 := by
  have f5 : Fr (fun r => r = 120 + k) ρ ρ w w5 := fC.grown hgr (fun g e => hg g e)
  have hbl : hb < w.heap.size := obj_lt ho
  have hsz := fC.size
  have gold : ∀ b, b < w.heap.size → b = g → ρ b = 120 + k := fun b hb' e => by
    subst e
    rcases hat with e | e
    · exact hg b e
    · omega
  have hne : hb ≠ g := fun e => by have := gold hb hbl e; omega
  have o5 : objAt w5 hb = some (.cells #[.string (keyS k), v, .int .i64 0] 47 (0, 0)) := f5.obj ho (by rw [hk]; omega)
  have f6 : Fr (fun r => r = 110 + k) (upd ρ g (120 + k)) (upd ρ g (120 + k)) w5 (w5.setCell ⟨hb, 1, none⟩ (.slice (some ⟨g, 0, none⟩) (l.length + 1) cap)) := (Fr.refl _ _ w5).setCell (a := ⟨hb, 1, none⟩) (by show upd ρ g (120 + k) hb = 110 + k; rw [upd_other _ hne]; exact hk) _
  have f7 : Fr (fun r => r = 110 + k ∨ r = 120 + k) ρ ρ w (w5.setCell ⟨hb, 1, none⟩ (.slice (some ⟨g, 0, none⟩) (l.length + 1) cap)) :=
    Fr.setCell (S := fun r => r = 110 + k ∨ r = 120 + k) (f5.mono (fun r h => Or.inr h)) (a := ⟨hb, 1, none⟩) (Or.inl hk) _
  refine ⟨f7.rerole (fun b hb' => ?_) (fun b hb' => ?_), ⟨by rw [upd_other _ hne]; exact hk, _, obj_set o5 1 _, ?_, fun g' hg' => ?_⟩⟩
  · by_cases e : b = g
    · rw [e, upd_same]; exact (e ▸ gold b hb' e).symm
    · rw [upd_other _ e]
  · simp only [World.size_setCell] at hb'
    rw [upd_other _ (by omega)]
  · rw [chgs_snoc, List.length_append]
    exact f6.owns hown (fun g' hg' => by
      have : g' = g := by simpa [Value.ownBlock] using hg'.symm
      rw [this, upd_same]; omega)
  · have : g' = g := by simpa [Value.ownBlock] using hg'.symm
    rw [this, upd_same]
end Go.Proofs.Ybulkdljs
