/-
  What the walk over (*index).makeRoom leans on: the second loop's state.
-/
import Derived.Test.YbulkdljsMake
namespace Go.Proofs.Ybulkdljs
open Go.RowKit

/-- The second loop of makeRoom: of the first i histories those that are full, ps, have their changes copied. -/
structure Mk2 (w : World) (ρ : Nat → Nat) (X mb : Nat) (M : Nat → Option Nat) (L : Nat → List Chg) (pl : List Plc) (nb : Nat) (te : Value) (V : Nat → Value) (ov tv rb : Value) (ah : Option Addr) (ch : Nat) (ks : List Nat) (i : Nat) (wr : World) (ρr : Nat → Nat) (Rm : Nat → Int) (E : Nat → Value) (ps : List Nat) (vs ys : List Value) (rc : Value) : Prop where
  fr : Fr (fun r => 100 ≤ r) ρ ρr w wr
  jx : Jx wr ρr X mb M L pl nb te V E Rm ov tv rb (.slice ah ks.length ch) rc
  hrow : wr.ownsRow 0 45 1 (.slice ah ks.length ch) ks.length ys
  hrole : ∀ g, (Value.slice ah ks.length ch).ownBlock = some g → ρr g = 106
  ysP : ∀ j, j < ps.length → ys[j]? = (ps.map fun k => ptrOf (M k))[j]?
  ysK : ∀ j, i ≤ j → ys[j]? = (ks.map fun k => ptrOf (M k))[j]?
  plen : ps.length ≤ i
  crow : wr.ownsRow 0 38 1 rc vs.length vs
  crole : ∀ g, rc.ownBlock = some g → ρr g = 107
  vlen : vs.length = ps.length
  at' : ∀ (j k : Nat), ps[j]? = some k → k < 5 ∧ vs[j]? = some (E k) ∧ ∃ hb, M k = some hb
  ev : ∀ k hb, k < 5 → M k = some hb → k ∉ ps → E k = V k
  rm : ∀ k, 0 ≤ Rm k ∧ Rm k ≤ 1024
  mem : ∀ k, Rm k ≠ 0 → ∃ j : Nat, i ≤ j ∧ ks[j]? = some k
  psz : ∀ k, k ∈ ps → Rm k = 0
  ok : ∀ k, k ∈ ks → k < 5 ∧ ∃ hb, M k = some hb

/-- One key's effective changes lie elsewhere. -/
theorem Jx.setE {w : World} {ρ : Nat → Nat} {X mb : Nat} {M : Nat → Option Nat} {L : Nat → List Chg} {pl : List Plc} {nb : Nat} {te : Value} {V E : Nat → Value} {Rm : Nat → Int} {ov tv rb rh rc : Value} (h : Jx w ρ X mb M L pl nb te V E Rm ov tv rb rh rc) (k : Nat) (v : Value)
    (hw : w.ownsRow 0 56 24 v (L k).length (chgs (L k))) (hr : ∀ g, v.ownBlock = some g → ρ g = 120 + k) : Jx w ρ X mb M L pl nb te V (fun j => if j = k then v else E j) Rm ov tv rb rh rc := by
  refine ⟨h.rx, h.rm, h.map, h.tidy, h.non, h.ho, h.ord, h.tl, h.hr, h.hob, fun j hb hj hM => ?_, fun j hb hj hM => ?_⟩
  · by_cases e : j = k
    · simp only [e, if_true]; exact hw
    · simp only [if_neg e]; exact h.hw j hb hj hM
  · by_cases e : j = k
    · simp only [e, if_true]; exact hr
    · simp only [if_neg e]; exact h.hg j hb hj hM

section
variable {w : World} {ρ : Nat → Nat} {X mb : Nat} {M : Nat → Option Nat} {L : Nat → List Chg} {pl : List Plc} {nb : Nat} {te : Value} {V : Nat → Value} {ov tv rb : Value} {ah : Option Addr} {ch : Nat} {ks : List Nat} {i : Nat} {wr : World} {ρr : Nat → Nat} {Rm : Nat → Int} {E : Nat → Value} {ps : List Nat} {vs ys : List Value} {rc : Value}

/-- 'h.room = 0'. -/
theorem Mk2.zero (h : Mk2 w ρ X mb M L pl nb te V ov tv rb ah ch ks i wr ρr Rm E ps vs ys rc) {k hb : Nat} (hk : ks[i]? = some k) (hM : M k = some hb) (ps' : List Nat) (vs' ys' : List Value) (E' : Nat → Value) (rc' : Value) (ρ' : Nat → Nat) (w' : World)
    (fr : Fr (fun r => 100 ≤ r) ρ ρ' w w') (jx : Jx w' ρ' X mb M L pl nb te V E' Rm ov tv rb (.slice ah ks.length ch) rc') (hrow : w'.ownsRow 0 45 1 (.slice ah ks.length ch) ks.length ys') (hrole : ∀ g, (Value.slice ah ks.length ch).ownBlock = some g → ρ' g = 106)
    (ysP : ∀ j, j < ps'.length → ys'[j]? = (ps'.map fun k => ptrOf (M k))[j]?) (ysK : ∀ j, i + 1 ≤ j → ys'[j]? = (ks.map fun k => ptrOf (M k))[j]?) (plen : ps'.length ≤ i + 1) (crow : w'.ownsRow 0 38 1 rc' vs'.length vs') (crole : ∀ g, rc'.ownBlock = some g → ρ' g = 107) (vlen : vs'.length = ps'.length)
    (at' : ∀ (j k : Nat), ps'[j]? = some k → k < 5 ∧ vs'[j]? = some (E' k) ∧ ∃ hb, M k = some hb) (ev : ∀ k hb, k < 5 → M k = some hb → k ∉ ps' → E' k = V k) (psz : ∀ j, j ∈ ps' → j ≠ k → Rm j = 0) :
    Mk2 w ρ X mb M L pl nb te V ov tv rb ah ch ks (i + 1) (w'.setCell ⟨hb, 2, none⟩ (.int .i64 0)) ρ' (fun j => if j = k then 0 else Rm j) E' ps' vs' ys' rc' := by
  have hk5 := (h.ok k (List.mem_of_getElem? hk)).1
  obtain ⟨f, J⟩ := jx.setH hk5 hM 2 (.int .i64 0) (V k) 0 rfl
  have e : (fun j => if j = k then V k else V j) = V := by funext j; split <;> simp_all
  rw [e] at J
  refine ⟨fr.trans (f.mono (fun r e => by omega)), J, f.owns hrow (fun g hg => by rw [hrole g hg]; omega), hrole, ysP, ysK, plen, f.owns crow (fun g hg => by rw [crole g hg]; omega), crole, vlen, at', ev, fun j => ?_, fun j hj => ?_, fun j hj => ?_, h.ok⟩
  · have := h.rm j
    split <;> omega
  · by_cases e : j = k
    · simp [e] at hj
    · rw [if_neg e] at hj
      obtain ⟨q, hq, hq'⟩ := h.mem j hj
      refine ⟨q, ?_, hq'⟩
      rcases Nat.lt_or_ge i q with h1 | h1
      · exact h1
      · obtain rfl : q = i := by omega
        rw [hk] at hq'
        exact absurd (Option.some.inj hq').symm e
  · by_cases e : j = k
    · simp [e]
    · rw [if_neg e]
      exact psz j hj e

theorem Mk2.skip (h : Mk2 w ρ X mb M L pl nb te V ov tv rb ah ch ks i wr ρr Rm E ps vs ys rc) {k hb : Nat} (hk : ks[i]? = some k) (hM : M k = some hb) {w' : World} (f : Fr (fun _ => False) ρr ρr wr w') :
    Mk2 w ρ X mb M L pl nb te V ov tv rb ah ch ks (i + 1) (w'.setCell ⟨hb, 2, none⟩ (.int .i64 0)) ρr (fun j => if j = k then 0 else Rm j) E ps vs ys rc :=
  h.zero hk hM ps vs ys E rc ρr w' (h.fr.trans (f.mono (fun _ e => e.elim))) (h.jx.fr f (fun _ _ _ _ e => e)) (f.owns h.hrow (fun _ _ e => e)) h.hrole h.ysP (fun j hj => h.ysK j (by omega)) (by have := h.plen; omega) (f.owns h.crow (fun _ _ e => e)) h.crole h.vlen h.at' h.ev (fun j hj _ => h.psz j hj)

/-- A full history: it goes to the room. -/
theorem Mk2.pend (h : Mk2 w ρ X mb M L pl nb te V ov tv rb ah ch ks i wr ρr Rm E ps vs ys rc) {k hb g6 g7 c7 gc : Nat} (hk : ks[i]? = some k) (hM : M k = some hb) (hkp : k ∉ ps) (hah : ah = some ⟨g6, 0, none⟩) {w0 w1 w2 w3 w5 : World}
    (f0 : Fr (fun _ => False) ρr ρr wr w0) (hw1 : w1 = w0.setCells g6 ps.length [ptrB hb]) (hB : Below w1.heap.size w1 w2) (hgc : w1.heap.size < w2.heap.size)
    (hG : w2.ownsRow 0 56 24 (.slice (some ⟨w1.heap.size, 0, none⟩) (L k).length gc) (L k).length (chgs (L k))) (f3 : Fr (fun _ => False) (upd ρr w1.heap.size (120 + k)) (upd ρr w1.heap.size (120 + k)) w2 w3) (hg5 : w3.grownBy w5 rc.ownBlock)
    (hown : w5.ownsRow 0 38 1 (.slice (some ⟨g7, 0, none⟩) (vs.length + 1) c7) (vs.length + 1) (vs ++ [.slice (some ⟨w1.heap.size, 0, none⟩) (L k).length gc])) (hat : rc.ownBlock = some g7 ∨ w3.heap.size ≤ g7) (hlt : g7 < w5.heap.size) :
    ∃ ys', Mk2 w ρ X mb M L pl nb te V ov tv rb ah ch ks (i + 1) ((w5.setCell ⟨X, 7, none⟩ (.slice (some ⟨g7, 0, none⟩) (vs.length + 1) c7)).setCell ⟨hb, 2, none⟩ (.int .i64 0)) (upd (upd ρr w1.heap.size (120 + k)) g7 107) (fun j => if j = k then 0 else Rm j)
      (fun j => if j = k then .slice (some ⟨w1.heap.size, 0, none⟩) (L k).length gc else E j) (ps ++ [k]) (vs ++ [.slice (some ⟨w1.heap.size, 0, none⟩) (L k).length gc]) ys' (.slice (some ⟨g7, 0, none⟩) (vs.length + 1) c7) := by
  have hks : i < ks.length := (List.getElem?_eq_some_iff.1 hk).1
  have hp := h.plen
  have hyl : ys.length = ks.length := by have := h.hrow.1; omega
  subst hah
  rcases h.hrow.2 with ⟨q, _⟩ | ⟨g, c, cur, q, _, hg, hnc, hcm, hcs, htk⟩
  · cases q
  cases q
  have r6 : ρr g6 = 106 := h.hrole g6 rfl
  have g6l : g6 < wr.heap.size := obj_lt hg
  have hys : ∀ j, j < ks.length → cur[j]? = ys[j]? := fun j hj => by rw [← htk, List.getElem?_take, if_pos (by omega), Array.getElem?_toList]
  have og0 : objAt w0 g6 = some (.cells cur 45 (0, 0)) := f0.obj hg (fun e => e)
  have og1 : objAt w1 g6 = some (.cells (spl cur ps.length [ptrB hb]) 45 (0, 0)) := by rw [hw1]; exact obj_sets _ _ _ _ og0
  have f1 : Fr (fun r => r = 106) ρr ρr wr w1 := (f0.mono (fun _ e => e.elim)).trans (by rw [hw1]; exact grown_fr (grown_sets _ _ _ _) _ (fun g e => by cases e; exact r6))
  have hsz1 := f1.size
  have hsz3 := f3.size
  have f2 : Fr (fun r => r = 106 ∨ r = 107) ρr (upd ρr w1.heap.size (120 + k)) w1 w2 := (Fr.ofBelow hB).rerole (fun b hb' => upd_other _ (by omega)) (fun b hb' => upd_other _ (by omega))
  have rcl : ∀ g, rc.ownBlock = some g → g < wr.heap.size := fun g e => (h.crow.lt g e).2
  have rc1 : ∀ g, rc.ownBlock = some g → upd ρr w1.heap.size (120 + k) g = 107 := fun g e => by
    have := rcl g e
    rw [upd_other _ (by omega)]; exact h.crole g e
  have g7ne : g7 ≠ w1.heap.size := fun e => by
    rcases hat with q | q
    · have := rcl g7 q; omega
    · omega
  have f5 : Fr (fun r => r = 107) (upd ρr w1.heap.size (120 + k)) (upd (upd ρr w1.heap.size (120 + k)) g7 107) w2 w5 := ((f3.mono (fun _ e => e.elim)).grown hg5 (fun g e => rc1 g e)).rerole (fun b hb' => by
    by_cases e : b = g7
    · rw [e, upd_same]
      rcases hat with q | q
      · exact (rc1 g7 q).symm
      · omega
    · rw [upd_other _ e]) (fun b hb' => upd_other _ (by omega))
  have F : Fr (fun r => r = 106 ∨ r = 107) ρr (upd (upd ρr w1.heap.size (120 + k)) g7 107) wr w5 := (f1.mono (fun r e => Or.inl e)).trans (f2.trans (f5.mono (fun r e => Or.inr e)))
  have rG : upd ρr w1.heap.size (120 + k) w1.heap.size = 120 + k := upd_same _ _ _
  have J5 := (h.jx.fr F (fun r h1 h2 h3 e => by omega)).setE k (.slice (some ⟨w1.heap.size, 0, none⟩) (L k).length gc) (f5.owns hG (fun g hg' => by
      have : g = w1.heap.size := by simpa [Value.ownBlock] using hg'.symm
      rw [this, rG]; omega)) (fun g hg' => by
      have : g = w1.heap.size := by simpa [Value.ownBlock] using hg'.symm
      rw [this, upd_other _ (Ne.symm g7ne), rG])
  obtain ⟨f7, J7⟩ := J5.setX 7 (.slice (some ⟨g7, 0, none⟩) (vs.length + 1) c7) tv rb (.slice (some ⟨g6, 0, none⟩) ks.length ch) (.slice (some ⟨g7, 0, none⟩) (vs.length + 1) c7) rfl
  have r6' : upd ρr w1.heap.size (120 + k) g6 = 106 := by rw [upd_other _ (by omega)]; exact r6
  have r6'' : upd (upd ρr w1.heap.size (120 + k)) g7 107 g6 = 106 := (F.role g6 g6l).trans r6
  have og2 : objAt w2 g6 = some (.cells (spl cur ps.length [ptrB hb]) 45 (0, 0)) := (hB.block g6 (by omega)).trans og1
  have og5 : objAt w5 g6 = some (.cells (spl cur ps.length [ptrB hb]) 45 (0, 0)) := f5.obj og2 (by rw [r6']; omega)
  have og7 : objAt (w5.setCell ⟨X, 7, none⟩ (.slice (some ⟨g7, 0, none⟩) (vs.length + 1) c7)) g6 = some (.cells (spl cur ps.length [ptrB hb]) 45 (0, 0)) := f7.obj og5 (by rw [r6'']; omega)
  have hspl : ∀ j, j < ks.length → ((spl cur ps.length [ptrB hb]).toList.take (ks.length * 1))[j]? = if j = ps.length then some (ptrB hb) else ys[j]? := fun j hj => by
    rw [List.getElem?_take, if_pos (by omega), Array.getElem?_toList, spl_get _ _ _ _ (by simp; omega)]
    by_cases e : j = ps.length
    · rw [if_pos (by simp; omega), if_pos e, e]; simp
    · rw [if_neg (by simp; omega), if_neg e, hys j hj]
  refine ⟨(spl cur ps.length [ptrB hb]).toList.take (ks.length * 1), h.zero hk hM (ps ++ [k]) (vs ++ [.slice (some ⟨w1.heap.size, 0, none⟩) (L k).length gc]) _ _ _ _ _
    (h.fr.trans ((F.mono (fun r e => by omega)).trans (f7.mono (fun r e => by omega)))) J7 ⟨by simp [spl_size]; omega, .inr ⟨g6, ch, _, rfl, Nat.zero_le _, og7, hnc, hcm, by rw [spl_size]; exact hcs, rfl⟩⟩ (fun g hg' => ?_) (fun j hj => ?_) (fun j hj => ?_) (by simp; omega) ?_ (fun g hg' => ?_) (by simp [h.vlen]) (fun j q hq => ?_) (fun q b hq hb' hnm => ?_) (fun j hj hne => ?_)⟩
  · have : g = g6 := by simpa [Value.ownBlock] using hg'.symm
    rw [this]; exact r6''
  · simp only [List.length_append, List.length_cons, List.length_nil] at hj
    rw [hspl j (by omega)]
    by_cases e : j = ps.length
    · rw [if_pos e, e, List.map_append, List.getElem?_append_right (by simp)]
      simp [hM, ptrOf, ptrB]
    · rw [if_neg e, h.ysP j (by omega), List.map_append, List.getElem?_append_left (by simp; omega)]
  · rcases Nat.lt_or_ge j ks.length with q | q
    · rw [hspl j q, if_neg (by omega)]
      exact h.ysK j (by omega)
    · rw [List.getElem?_eq_none (by simp; omega), List.getElem?_eq_none (by simp; omega)]
  · rw [List.length_append]
    exact f7.owns hown (fun g hg' => by
      have : g = g7 := by simpa [Value.ownBlock] using hg'.symm
      rw [this, upd_same]; omega)
  · have : g = g7 := by simpa [Value.ownBlock] using hg'.symm
    rw [this, upd_same]
  · rcases Nat.lt_or_ge j ps.length with hj | hj
    · rw [List.getElem?_append_left hj] at hq
      obtain ⟨a1, a2, a3⟩ := h.at' j q hq
      have hqk : q ≠ k := fun e => hkp (e ▸ List.mem_of_getElem? hq)
      exact ⟨a1, by rw [List.getElem?_append_left (by rw [h.vlen]; exact hj), if_neg hqk]; exact a2, a3⟩
    · rw [List.getElem?_append_right hj] at hq
      have hj' : j = ps.length := by
        have := (List.getElem?_eq_some_iff.1 hq).1
        simp at this
        omega
      subst hj'
      simp at hq
      subst hq
      exact ⟨(h.ok k (List.mem_of_getElem? hk)).1, by rw [List.getElem?_append_right (by rw [h.vlen]; exact Nat.le_refl _), h.vlen]; simp, hb, hM⟩
  · have hqk : q ≠ k := fun e => hnm (by simp [e])
    rw [if_neg hqk]
    exact h.ev q b hq hb' (fun hm => hnm (List.mem_append_left _ hm))
  · simp only [List.mem_append, List.mem_cons, List.not_mem_nil, or_false] at hj
    rcases hj with hj | hj
    · exact h.psz j hj
    · exact absurd hj hne
end
end Go.Proofs.Ybulkdljs
