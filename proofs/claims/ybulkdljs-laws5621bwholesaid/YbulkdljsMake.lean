/-
  What the walk over (*index).makeRoom leans on: withRoom over the index; the first loop's state.
-/
import Derived.Test.YbulkdljsTake
namespace Go.Proofs.Ybulkdljs
open Go.RowKit

/-- withRoom, over the index: the answer v, and where the timeline's places lie in effect. -/
def WaRes (w : World) (ρ : Nat → Nat) (X mb : Nat) (M : Nat → Option Nat) (L : Nat → List Chg) (pl : List Plc) (nb : Nat) (V : Nat → Value) (ov tv rb rh rc : Value) (e : Ending) (w' : World) : Prop :=
  ∃ ao vn vc ρ' te, e = .returned (.slice ao vn vc) ∧ Fr (fun r => r = 102) ρ ρ' w w' ∧ Jx w' ρ' X mb M L pl nb te V V (fun _ => 0) ov tv rb rh rc ∧ ((ao = none ∧ vn = 0 ∧ vc = 0 ∧ te = tv) ∨ (∃ g, ao = some ⟨g, 0, none⟩ ∧ te = .slice ao vn vc))

theorem withRoom_any (ρ : Nat → Nat) (X mb : Nat) (M : Nat → Option Nat) (L : Nat → List Chg) (pl : List Plc) (nb m : Nat) (V : Nat → Value) (ov tv rb rh rc : Value) (w : World) (hJ : Jx w ρ X mb M L pl nb tv V V (fun _ => 0) ov tv rb rh rc)
    (hpl : pl.length ≤ 1000000) (hm : m ≤ 1024) (hnb : nb ≤ 1000) :
    Calls Yba.prog 15 #[.pointer (some ⟨X, 2, none⟩), .int .i64 m] w (WaRes w ρ X mb M L pl (max nb ((pl.length + m + 1023) / 1024)) V ov tv rb rh rc) := by
  obtain ⟨bl, hT, hl⟩ := hJ.tl
  have c2 : w.cell? ⟨X, 2, none⟩ = some tv := obj_cell hJ.ho 2
  have c3 : w.cell? ⟨X, 3, none⟩ = some (.int .i64 (pl.length : Int)) := obj_cell hJ.ho 3
  obtain ⟨q, hq⟩ : ∃ q, q = (pl.length + m + 1023) / 1024 := ⟨_, rfl⟩
  have hdiv : Int.tdiv ((pl.length : Int) + (m : Int) + 1023) 1024 = (q : Int) := by
    rw [Int.tdiv_eq_ediv_of_nonneg (by omega), hq]
    omega
  rw [← hq]
  rcases Nat.lt_or_ge nb q with h | h
  · rw [Nat.max_eq_right (Nat.le_of_lt h)]
    obtain ⟨R, hR⟩ : ∃ R, q = nb + R := ⟨q - nb, by omega⟩
    refine (withRoom_more X pl.length m R ρ tv bl pl nb hl w c2 c3 hT (by omega) (by omega) (by omega) (by omega) (by rw [hdiv, hR]; simp) (by omega) (by omega)).mono ?_
    rintro e w' ⟨g, n, cap, ρ', bl', rfl, hf, hT', hl'⟩
    obtain ⟨no, hO, hn⟩ := hJ.ord
    refine ⟨_, n, cap, ρ', _, rfl, hf, ⟨(hf.role _ (obj_lt hJ.ho)).trans hJ.rx, (hf.role _ hJ.map.lt).trans hJ.rm, hJ.map.fr hf (by rw [hJ.rm]; omega), hf.tidy hJ.tidy, hJ.non, hf.obj hJ.ho (by rw [hJ.rx]; omega), ⟨no, hO.fr hf (by omega) (by omega) (fun _ h => h), hn⟩, ⟨bl', hT', by rw [hl', hR]⟩,
      fun k hb hk hM => (hf.role _ (obj_lt (hJ.hob k hb hk hM))).trans (hJ.hr k hb hk hM), fun k hb hk hM => hf.obj (hJ.hob k hb hk hM) (by rw [hJ.hr k hb hk hM]; omega), fun k hb hk hM => hf.owns (hJ.hw k hb hk hM) (fun g hg => by rw [hJ.hg k hb hk hM g hg]; omega), fun k hb hk hM => hf.roleOf (hJ.hw k hb hk hM) (hJ.hg k hb hk hM)⟩, .inr ⟨g, rfl, rfl⟩⟩
  · rw [Nat.max_eq_left h]
    obtain ⟨ao, cap, rfl⟩ := form_any hT.row
    refine (withRoom_none X pl.length m q ao bl.length cap w c2 c3 (by omega) (by omega) (by omega) (by omega) hdiv (by omega) (by omega) (by omega)).mono ?_
    rintro e w' ⟨rfl, k, rfl⟩
    exact ⟨none, 0, 0, ρ, _, rfl, (Fr.refl _ ρ w).drewN k, hJ.fr ((Fr.refl (fun _ => False) ρ w).drewN k) (fun _ _ _ _ h => h), .inl ⟨rfl, rfl, rfl, rfl⟩⟩

/-- The first loop of makeRoom: each operation's history counts. -/
structure Mk1 (w : World) (ρ : Nat → Nat) (X mb : Nat) (M : Nat → Option Nat) (L : Nat → List Chg) (pl : List Plc) (nb : Nat) (te : Value) (V : Nat → Value) (ov tv rb rc : Value) (i : Nat) (wr : World) (ρr : Nat → Nat) (Rm : Nat → Int) (ks : List Nat) (rh : Value) : Prop where
  fr : Fr (fun r => 100 ≤ r) ρ ρr w wr
  jx : Jx wr ρr X mb M L pl nb te V V Rm ov tv rb rh rc
  hrow : wr.ownsRow 0 45 1 rh ks.length (ks.map fun k => ptrOf (M k))
  hrole : ∀ g, rh.ownBlock = some g → ρr g = 106
  crow : wr.ownsRow 0 38 1 rc 0 []
  crole : ∀ g, rc.ownBlock = some g → ρr g = 107
  rm : ∀ k, 0 ≤ Rm k ∧ Rm k ≤ (i : Int)
  mem : ∀ k, Rm k ≠ 0 → k ∈ ks
  ok : ∀ k, k ∈ ks → k < 5 ∧ ∃ hb, M k = some hb
  len : ks.length ≤ i

section
variable {w : World} {ρ : Nat → Nat} {X mb : Nat} {M : Nat → Option Nat} {L : Nat → List Chg} {pl : List Plc} {nb : Nat} {te : Value} {V : Nat → Value} {ov tv rb rc : Value} {i : Nat} {wr : World} {ρr : Nat → Nat} {Rm : Nat → Int} {ks : List Nat} {rh : Value}

theorem Mk1.keep (h : Mk1 w ρ X mb M L pl nb te V ov tv rb rc i wr ρr Rm ks rh) {w' : World} (f : Fr (fun _ => False) ρr ρr wr w') : Mk1 w ρ X mb M L pl nb te V ov tv rb rc i w' ρr Rm ks rh :=
  ⟨h.fr.trans (f.mono (fun _ e => e.elim)), h.jx.fr f (fun _ _ _ _ e => e), f.owns h.hrow (fun _ _ e => e), h.hrole, f.owns h.crow (fun _ _ e => e), h.crole, h.rm, h.mem, h.ok, h.len⟩

theorem Mk1.next (h : Mk1 w ρ X mb M L pl nb te V ov tv rb rc i wr ρr Rm ks rh) : Mk1 w ρ X mb M L pl nb te V ov tv rb rc (i + 1) wr ρr Rm ks rh :=
  ⟨h.fr, h.jx, h.hrow, h.hrole, h.crow, h.crole, fun k => ⟨(h.rm k).1, by have := (h.rm k).2; omega⟩, h.mem, h.ok, by have := h.len; omega⟩

/-- 'h.room++'. -/
theorem Mk1.inc (h : Mk1 w ρ X mb M L pl nb te V ov tv rb rc i wr ρr Rm ks rh) {k hb : Nat} (hk : k < 5) (hM : M k = some hb) (hmem : k ∈ ks) (hR : Rm k + 1 ≤ (i : Int)) : Mk1 w ρ X mb M L pl nb te V ov tv rb rc i (wr.setCell ⟨hb, 2, none⟩ (.int .i64 (Rm k + 1))) ρr (fun j => if j = k then Rm k + 1 else Rm j) ks rh := by
  obtain ⟨f, J⟩ := h.jx.setH hk hM 2 (.int .i64 (Rm k + 1)) (V k) (Rm k + 1) rfl
  have e : (fun j => if j = k then V k else V j) = V := by funext j; split <;> simp_all
  rw [e] at J
  refine ⟨h.fr.trans (f.mono (fun r e => by omega)), J, f.owns h.hrow (fun g hg => by rw [h.hrole g hg]; omega), h.hrole, f.owns h.crow (fun g hg => by rw [h.crole g hg]; omega), h.crole, fun j => ?_, fun j hj => ?_, h.ok, h.len⟩
  · have h1 := h.rm j
    have h2 := h.rm k
    split <;> omega
  · by_cases e : j = k
    · rw [e]; exact hmem
    · rw [if_neg e] at hj
      exact h.mem j hj

/-- 'r.hs = append(r.hs, h)'. -/
theorem Mk1.add (h : Mk1 w ρ X mb M L pl nb te V ov tv rb rc i wr ρr Rm ks rh) {k hb g cap : Nat} {wC w5 : World} (hk : k < 5) (hM : M k = some hb) (hlen : ks.length + 1 ≤ i) (fC : Fr (fun _ => False) ρr ρr wr wC) (hgr : wC.grownBy w5 rh.ownBlock)
    (hown : w5.ownsRow 0 45 1 (.slice (some ⟨g, 0, none⟩) (ks.length + 1) cap) (ks.length + 1) ((ks.map fun k => ptrOf (M k)) ++ [ptrB hb])) (hat : rh.ownBlock = some g ∨ wC.heap.size ≤ g) (hlt : g < w5.heap.size) :
    Mk1 w ρ X mb M L pl nb te V ov tv rb rc i (w5.setCell ⟨X, 6, none⟩ (.slice (some ⟨g, 0, none⟩) (ks.length + 1) cap)) (upd ρr g 106) Rm (ks ++ [k]) (.slice (some ⟨g, 0, none⟩) (ks.length + 1) cap) := by
  have f5 : Fr (fun r => r = 106) ρr ρr wr w5 := (fC.mono (fun _ e => e.elim)).grown hgr (fun g e => h.hrole g e)
  have hsz := fC.size
  have gold : ∀ b, b < wr.heap.size → b = g → ρr b = 106 := fun b hb' e => by
    subst e
    rcases hat with e | e
    · exact h.hrole b e
    · omega
  have f6 : Fr (fun r => r = 106) ρr (upd ρr g 106) wr w5 := f5.rerole (fun b hb' => by
    by_cases e : b = g
    · rw [e, upd_same]; exact (e ▸ gold b hb' e).symm
    · rw [upd_other _ e]) (fun b hb' => by rw [upd_other _ (by omega)])
  have J6 := h.jx.fr f6 (fun r h1 h2 h3 => h2)
  obtain ⟨f7, J7⟩ := J6.setX 6 (.slice (some ⟨g, 0, none⟩) (ks.length + 1) cap) tv rb (.slice (some ⟨g, 0, none⟩) (ks.length + 1) cap) rc rfl
  refine ⟨h.fr.trans ((f6.mono (fun r e => by omega)).trans (f7.mono (fun r e => by omega))), J7, ?_, fun g' hg' => ?_, f7.owns (f6.owns h.crow (fun g hg => by rw [h.crole g hg]; omega)) (fun g' hg' => by rw [f6.roleOf h.crow h.crole g' hg']; omega), f6.roleOf h.crow h.crole, h.rm, fun j hj => List.mem_append_left _ (h.mem j hj), fun j hj => ?_, by simp; omega⟩
  · have e : (ks ++ [k]).map (fun k => ptrOf (M k)) = (ks.map fun k => ptrOf (M k)) ++ [ptrB hb] := by simp [hM, ptrOf, ptrB]
    rw [e, List.length_append]
    exact f7.owns hown (fun g' hg' => by
      have : g' = g := by simpa [Value.ownBlock] using hg'.symm
      rw [this, upd_same]; omega)
  · have : g' = g := by simpa [Value.ownBlock] using hg'.symm
    rw [this, upd_same]
  · simp only [List.mem_append, List.mem_cons, List.not_mem_nil, or_false] at hj
    rcases hj with hj | hj
    · exact h.ok j hj
    · rw [hj]; exact ⟨hk, hb, hM⟩
end
end Go.Proofs.Ybulkdljs
