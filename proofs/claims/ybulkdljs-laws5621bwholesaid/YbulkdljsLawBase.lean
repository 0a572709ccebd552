/-
  What the walk over LawS5621BWhole leans on: the law's own rows, and its state between its loops.
-/
import Derived.Test.YbulkdljsSteps
import Derived.Test.YbulkdljsSame
namespace Go.Proofs.Ybulkdljs
open Go.RowKit

/-! ### Parts of the law's text -/
def cTl : Code → Code
  | .seq _ b => b
  | c => c
def cHd : Code → Code
  | .seq a _ => a
  | c => c
def cIn : Code → Code
  | .block _ a => a
  | c => c
def cB : Option Code → Code
  | some c => c
  | none => .skip
def cAt : Nat → Code → Code
  | 0, c => c
  | n + 1, c => cAt n (cTl c)
noncomputable def lp1 : Code := cIn (cTl (cHd (cAt 7 (cB Yba.f3.body))))
noncomputable def lp2 : Code := cIn (cTl (cHd (cAt 12 (cB Yba.f3.body))))
noncomputable def lp3 : Code := cIn (cTl (cHd (cAt 23 (cB Yba.f3.body))))
noncomputable def lp5 : Code := cIn (cTl (cHd (cAt 25 (cB Yba.f3.body))))

/-! ### Places expected -/
structure Rk where
  main : Int
  sub : Int
  k : Nat
def Rk.revs (r : Rk) : List Value := [.int .i64 r.main, .int .i64 r.sub]
def revsOf (rs : List Rk) : List Value := rs.flatMap Rk.revs
def keysOf (rs : List Rk) : List Value := rs.map fun r => .int .i64 (r.k : Int)
theorem keysOf_snoc (rs : List Rk) (r : Rk) : keysOf (rs ++ [r]) = keysOf rs ++ [.int .i64 (r.k : Int)] := by simp [keysOf]
theorem revsOf_snoc (rs : List Rk) (r : Rk) : revsOf (rs ++ [r]) = revsOf rs ++ r.revs := by simp [revsOf]

/-- Each place of the timeline is the one that is expected there. -/
def PlR (M : Nat → Option Nat) (pl : List Plc) (rs : List Rk) : Prop := ∀ (j : Nat) (p : Plc), pl[j]? = some p → ∃ r, rs[j]? = some r ∧ p.main = r.main ∧ p.sub = r.sub ∧ M r.k = some p.h

theorem PlR.ext {M M' : Nat → Option Nat} {pl : List Plc} {rs : List Rk} (h : PlR M pl rs) (hx : ∀ j b, M j = some b → M' j = some b) : PlR M' pl rs := fun j p hp => by
  obtain ⟨r, h1, h2, h3, h4⟩ := h j p hp
  exact ⟨r, h1, h2, h3, hx _ _ h4⟩

theorem PlR.app {M : Nat → Option Nat} {pl qs : List Plc} {rs ts : List Rk} (h : PlR M pl rs) (k : PlR M qs ts) (hl : pl.length = rs.length) : PlR M (pl ++ qs) (rs ++ ts) := fun j p hp => by
  rcases Nat.lt_or_ge j pl.length with hj | hj
  · rw [List.getElem?_append_left hj] at hp
    obtain ⟨r, h1, h2⟩ := h j p hp
    exact ⟨r, by rw [List.getElem?_append_left (by omega)]; exact h1, h2⟩
  · rw [List.getElem?_append_right hj] at hp
    obtain ⟨r, h1, h2⟩ := k _ p hp
    exact ⟨r, by rw [List.getElem?_append_right (by omega), ← hl]; exact h1, h2⟩

/-! ### The law's rows of changes -/
structure Ex (w : World) (ρ : Nat → Nat) (EB : Nat) (E : Nat → List Chg) : Prop where
  rE : ρ EB = 1
  ex : ∃ V : Nat → Value, objAt w EB = some (.cells #[V 0, V 1, V 2, V 3, V 4] 39 (0, 0)) ∧ (∀ k, k < 5 → w.ownsRow 0 56 24 (V k) (E k).length (chgs (E k))) ∧ ∀ k, k < 5 → ∀ g, (V k).ownBlock = some g → ρ g = 10 + k

theorem Ex.fr {S : Nat → Prop} {ρ ρ' : Nat → Nat} {w w' : World} {EB : Nat} {E : Nat → List Chg} (h : Ex w ρ EB E) (f : Fr S ρ ρ' w w') (h1 : ¬ S 1) (h2 : ∀ k, k < 5 → ¬ S (10 + k)) : Ex w' ρ' EB E := by
  obtain ⟨rE, V, ho, hw, hr⟩ := h
  exact ⟨(f.role _ (obj_lt ho)).trans rE, V, f.obj ho (by rw [rE]; exact h1), fun k hk => f.owns (hw k hk) (fun g hg => by rw [hr k hk g hg]; exact h2 k hk), fun k hk => f.roleOf (hw k hk) (hr k hk)⟩

theorem five (V : Nat → Value) (k : Nat) (hk : k < 5) : (#[V 0, V 1, V 2, V 3, V 4] : Array Value)[k]? = some (V k) := by
  match k, hk with
  | 0, _ | 1, _ | 2, _ | 3, _ | 4, _ => rfl

theorem five_set (V : Nat → Value) (k : Nat) (u : Value) (hk : k < 5) : (#[V 0, V 1, V 2, V 3, V 4] : Array Value).setIfInBounds k u = #[if 0 = k then u else V 0, if 1 = k then u else V 1, if 2 = k then u else V 2, if 3 = k then u else V 3, if 4 = k then u else V 4] := by
  match k, hk with
  | 0, _ | 1, _ | 2, _ | 3, _ | 4, _ => rfl

/-- An append, as the laws on it leave the memory: the row's block, old or new, has the row's role. -/
theorem row_push {w w5 : World} {ρ : Nat → Nat} {R g : Nat} {v : Value} (hgr : w.grownBy w5 v.ownBlock) (hro : ∀ g, v.ownBlock = some g → ρ g = R) (hat : v.ownBlock = some g ∨ w.heap.size ≤ g) (hlt : g < w5.heap.size) :
    Fr (fun r => r = R) ρ (upd ρ g R) w w5 :=
  ((Fr.refl _ ρ w).grown hgr (fun g e => hro g e)).rerole (fun b hb' => by
    by_cases e : b = g
    · rw [e, upd_same]
      rcases hat with q | q
      · exact (hro g q).symm
      · omega
    · rw [upd_other _ e]) (fun b hb' => upd_other _ (by omega))

/-- The k-th row's value, and what an append to it and the store of it leave. -/
theorem Ex.push {w w5 : World} {ρ : Nat → Nat} {EB k g cap : Nat} {E : Nat → List Chg} {v : Value} {c : Chg} (h : Ex w ρ EB E) (hk : k < 5) (hv : w.cell? ⟨EB, k, none⟩ = some v) (hgr : w.grownBy w5 v.ownBlock)
    (hown : w5.ownsRow 0 56 24 (.slice (some ⟨g, 0, none⟩) ((E k).length + 1) cap) ((E k).length + 1) (chgs (E k) ++ c.cells)) (hat : v.ownBlock = some g ∨ w.heap.size ≤ g) (hlt : g < w5.heap.size) :
    Fr (fun r => r = 1 ∨ r = 10 + k) ρ (upd ρ g (10 + k)) w (w5.setCell ⟨EB, k, none⟩ (.slice (some ⟨g, 0, none⟩) ((E k).length + 1) cap)) ∧
      Ex (w5.setCell ⟨EB, k, none⟩ (.slice (some ⟨g, 0, none⟩) ((E k).length + 1) cap)) (upd ρ g (10 + k)) EB (fun j => if j = k then E k ++ [c] else E j) := by
  obtain ⟨rE, V, ho, hw, hr⟩ := h
  have hvk : v = V k := by
    have := obj_cell ho k
    rw [hv, five V k hk] at this
    exact Option.some.inj this
  subst hvk
  have f1 : Fr (fun r => r = 10 + k) ρ (upd ρ g (10 + k)) w w5 := row_push hgr (hr k hk) hat hlt
  have rE' : upd ρ g (10 + k) EB = 1 := (f1.role _ (obj_lt ho)).trans rE
  have o5 := f1.obj ho (by rw [rE]; omega)
  have f2 : Fr (fun r => r = 1) (upd ρ g (10 + k)) (upd ρ g (10 + k)) w5 (w5.setCell ⟨EB, k, none⟩ (.slice (some ⟨g, 0, none⟩) ((E k).length + 1) cap)) := (Fr.refl _ _ w5).setCell (a := ⟨EB, k, none⟩) rE' _
  refine ⟨(f1.mono (fun _ e => Or.inr e)).trans (f2.mono (fun _ e => Or.inl e)), rE', fun j => if j = k then .slice (some ⟨g, 0, none⟩) ((E k).length + 1) cap else V j, ?_, fun j hj => ?_, fun j hj g' hg' => ?_⟩
  · have := obj_set o5 k (.slice (some ⟨g, 0, none⟩) ((E k).length + 1) cap)
    rw [five_set V k _ hk] at this
    exact this
  · by_cases e : j = k
    · subst e
      simp only [if_true]
      rw [chgs_snoc, List.length_append]
      exact f2.owns hown (fun g' hg' => by
        have : g' = g := by simpa [Value.ownBlock] using hg'.symm
        rw [this, upd_same]; omega)
    · simp only [if_neg e]
      exact f2.owns (f1.owns (hw j hj) (fun g' hg' => by rw [hr j hj g' hg']; omega)) (fun g' hg' => by rw [f1.roleOf (hw j hj) (hr j hj) g' hg']; omega)
  · by_cases e : j = k
    · subst e
      simp only [if_true] at hg'
      have : g' = g := by simpa [Value.ownBlock] using hg'.symm
      rw [this, upd_same]
    · simp only [if_neg e] at hg'
      exact f1.roleOf (hw j hj) (hr j hj) g' hg'

theorem Ex.cell {w : World} {ρ : Nat → Nat} {EB k : Nat} {E : Nat → List Chg} (h : Ex w ρ EB E) (hk : k < 5) : ∃ v, w.cell? ⟨EB, k, none⟩ = some v ∧ w.frozen? ⟨EB, k, none⟩ = false ∧ w.ownsRow 0 56 24 v (E k).length (chgs (E k)) ∧ ∀ g, v.ownBlock = some g → ρ g = 10 + k := by
  obtain ⟨rE, V, ho, hw, hr⟩ := h
  exact ⟨V k, by rw [obj_cell ho, five V k hk], obj_frozen ho k, hw k hk, hr k hk⟩

/-! ### The law's state -/
structure St (w0 : World) (X mb EB : Nat) (w : World) (ρ : Nat → Nat) (M : Nat → Option Nat) (L : Nat → List Chg) (pl : List Plc) (nb : Nat) (E : Nat → List Chg) (ks rs : List Rk) (vk vr : Value) : Prop where
  fr : Fr (fun r => r ≠ 0) (fun _ => 0) ρ w0 w
  ix : Ix w ρ X mb M L pl nb (.slice none 0 0) (.slice none 0 0) (.slice none 0 0)
  ex : Ex w ρ EB E
  pk : w.ownsRow 0 3 1 vk ks.length (keysOf ks)
  rk : ∀ g, vk.ownBlock = some g → ρ g = 3
  pr : w.ownsRow 0 49 2 vr rs.length (revsOf rs)
  rr : ∀ g, vr.ownBlock = some g → ρ g = 4

section
variable {w0 : World} {X mb EB : Nat} {w w' : World} {ρ ρ' : Nat → Nat} {M M' : Nat → Option Nat} {L L' : Nat → List Chg} {pl pl' : List Plc} {nb nb' : Nat} {E E' : Nat → List Chg} {ks rs : List Rk} {vk vr : Value}

theorem St.keep (h : St w0 X mb EB w ρ M L pl nb E ks rs vk vr) (f : Fr (fun _ => False) ρ ρ' w w') : St w0 X mb EB w' ρ' M L pl nb E ks rs vk vr :=
  ⟨h.fr.trans (f.mono (fun _ e => e.elim)), h.ix.fr f (fun _ _ e => e), h.ex.fr f (fun e => e) (fun _ _ e => e), f.owns h.pk (fun _ _ e => e), f.roleOf h.pk h.rk, f.owns h.pr (fun _ _ e => e), f.roleOf h.pr h.rr⟩

theorem St.ix' (h : St w0 X mb EB w ρ M L pl nb E ks rs vk vr) (f : Fr (fun r => 100 ≤ r) ρ ρ' w w') (ix : Ix w' ρ' X mb M' L' pl' nb' (.slice none 0 0) (.slice none 0 0) (.slice none 0 0)) : St w0 X mb EB w' ρ' M' L' pl' nb' E ks rs vk vr :=
  ⟨h.fr.trans (f.mono (fun r e => by omega)), ix, h.ex.fr f (by omega) (fun k hk => by omega), f.owns h.pk (fun g hg => by rw [h.rk g hg]; omega), f.roleOf h.pk h.rk, f.owns h.pr (fun g hg => by rw [h.rr g hg]; omega), f.roleOf h.pr h.rr⟩

theorem St.ex' {k : Nat} (hk : k < 5) (h : St w0 X mb EB w ρ M L pl nb E ks rs vk vr) (f : Fr (fun r => r = 1 ∨ r = 10 + k) ρ ρ' w w') (ex : Ex w' ρ' EB E') : St w0 X mb EB w' ρ' M L pl nb E' ks rs vk vr :=
  ⟨h.fr.trans (f.mono (fun r e => by omega)), h.ix.fr f (fun r hr e => by omega), ex, f.owns h.pk (fun g hg => by rw [h.rk g hg]; omega), f.roleOf h.pk h.rk, f.owns h.pr (fun g hg => by rw [h.rr g hg]; omega), f.roleOf h.pr h.rr⟩

theorem St.pk' {ks' : List Rk} {vk' : Value} (h : St w0 X mb EB w ρ M L pl nb E ks rs vk vr) (f : Fr (fun r => r = 3) ρ ρ' w w') (pk : w'.ownsRow 0 3 1 vk' ks'.length (keysOf ks')) (rk : ∀ g, vk'.ownBlock = some g → ρ' g = 3) : St w0 X mb EB w' ρ' M L pl nb E ks' rs vk' vr :=
  ⟨h.fr.trans (f.mono (fun r e => by omega)), h.ix.fr f (fun r hr e => by omega), h.ex.fr f (by omega) (fun k hk => by omega), pk, rk, f.owns h.pr (fun g hg => by rw [h.rr g hg]; omega), f.roleOf h.pr h.rr⟩

theorem St.pr' {rs' : List Rk} {vr' : Value} (h : St w0 X mb EB w ρ M L pl nb E ks rs vk vr) (f : Fr (fun r => r = 4) ρ ρ' w w') (pr : w'.ownsRow 0 49 2 vr' rs'.length (revsOf rs')) (rr : ∀ g, vr'.ownBlock = some g → ρ' g = 4) : St w0 X mb EB w' ρ' M L pl nb E ks rs' vk vr' :=
  ⟨h.fr.trans (f.mono (fun r e => by omega)), h.ix.fr f (fun r hr e => by omega), h.ex.fr f (by omega) (fun k hk => by omega), f.owns h.pk (fun g hg => by rw [h.rk g hg]; omega), f.roleOf h.pk h.rk, pr, rr⟩

/-- 'pk = append(pk, k)', 'prevs = append(prevs, c.rev)'. -/
theorem St.pushK {r : Rk} {g cap : Nat} {w5 : World} (h : St w0 X mb EB w ρ M L pl nb E ks rs vk vr) (hgr : w.grownBy w5 vk.ownBlock) (hown : w5.ownsRow 0 3 1 (.slice (some ⟨g, 0, none⟩) (ks.length + 1) cap) (ks.length + 1) (keysOf ks ++ [.int .i64 (r.k : Int)])) (hat : vk.ownBlock = some g ∨ w.heap.size ≤ g) (hlt : g < w5.heap.size) :
    Fr (fun r => r = 3) ρ (upd ρ g 3) w w5 ∧ St w0 X mb EB w5 (upd ρ g 3) M L pl nb E (ks ++ [r]) rs (.slice (some ⟨g, 0, none⟩) (ks.length + 1) cap) vr := by
  have f := row_push hgr h.rk hat hlt
  refine ⟨f, h.pk' f ?_ (fun g' hg' => ?_)⟩
  · rw [keysOf_snoc, List.length_append]; exact hown
  · have : g' = g := by simpa [Value.ownBlock] using hg'.symm
    rw [this, upd_same]
theorem St.pushR {r : Rk} {g cap : Nat} {w5 : World} (h : St w0 X mb EB w ρ M L pl nb E ks rs vk vr) (hgr : w.grownBy w5 vr.ownBlock) (hown : w5.ownsRow 0 49 2 (.slice (some ⟨g, 0, none⟩) (rs.length + 1) cap) (rs.length + 1) (revsOf rs ++ r.revs)) (hat : vr.ownBlock = some g ∨ w.heap.size ≤ g) (hlt : g < w5.heap.size) :
    Fr (fun r => r = 4) ρ (upd ρ g 4) w w5 ∧ St w0 X mb EB w5 (upd ρ g 4) M L pl nb E ks (rs ++ [r]) vk (.slice (some ⟨g, 0, none⟩) (rs.length + 1) cap) := by
  have f := row_push hgr h.rr hat hlt
  refine ⟨f, h.pr' f ?_ (fun g' hg' => ?_)⟩
  · rw [revsOf_snoc, List.length_append]; exact hown
  · have : g' = g := by simpa [Value.ownBlock] using hg'.symm
    rw [this, upd_same]
end

/-- A new history, put into the map. -/
theorem Ix.newHis {w w3 : World} {ρ : Nat → Nat} {X mb : Nat} {M : Nat → Option Nat} {L : Nat → List Chg} {pl : List Plc} {nb : Nat} {rb rh rc : Value} (h : Ix w ρ X mb M L pl nb rb rh rc) {k : Nat} (hk : k < 5) (hM : M k = none)
    (hput : (w.alloc (.cells #[.string (keyS k), .slice none 0 0, .int .i64 0] 47)).grownBy w3 (some mb)) (hmap : MapIs w3 mb (setM M k w.heap.size)) :
    Fr (fun r => 100 ≤ r) ρ (upd ρ w.heap.size (110 + k)) w w3 ∧ Ix w3 (upd ρ w.heap.size (110 + k)) X mb (setM M k w.heap.size) L pl nb rb rh rc := by
  obtain ⟨rx, rm, map, his, non, tidy, ov, tv, bl, n, ho, hT, hl, hO, hn⟩ := h
  have hml := map.lt
  have f1 : Fr (fun r => r = 101) ρ (upd ρ w.heap.size (110 + k)) w (w.alloc (.cells #[.string (keyS k), .slice none 0 0, .int .i64 0] 47)) := (Fr.refl _ ρ w).allocAs _ _
  have rm1 : upd ρ w.heap.size (110 + k) mb = 101 := (f1.role _ hml).trans rm
  have f2 : Fr (fun r => r = 101) (upd ρ w.heap.size (110 + k)) (upd ρ w.heap.size (110 + k)) (w.alloc (.cells #[.string (keyS k), .slice none 0 0, .int .i64 0] 47)) w3 := (Fr.refl _ _ _).grown hput (fun g e => by cases e; exact rm1)
  have f := f1.trans f2
  have rh1 : upd ρ w.heap.size (110 + k) w.heap.size = 110 + k := upd_same _ _ _
  have oh : objAt w3 w.heap.size = some (.cells #[.string (keyS k), .slice none 0 0, .int .i64 0] 47 (0, 0)) := f2.obj (heapN w _ _ rfl) (by rw [rh1]; omega)
  have hcnt := count_set M k w.heap.size hk hM
  refine ⟨f.mono (fun r e => by omega), (f.role _ (obj_lt ho)).trans rx, (f2.role _ (Nat.lt_of_lt_of_le hml f1.size)).trans rm1, hmap, fun j c hj hc => ?_, fun j hj hc => ?_, f.tidy tidy, ov, tv, bl, n, f.obj ho (by omega), hT.fr f (by omega) (fun i => by omega), hl, hO.fr f (by omega) (by omega) (fun b hb => ?_), by omega⟩
  · by_cases e : j = k
    · subst e
      have : c = w.heap.size := by simpa [setM] using hc.symm
      subst this
      rw [non j hj hM]
      exact ⟨rh1, _, oh, ⟨rfl, .inl ⟨rfl, rfl⟩⟩, fun g hg => by simp [Value.ownBlock] at hg⟩
    · have hc' : M j = some c := by simpa [setM, e] using hc
      exact (his j c hj hc').fr f (by omega) (by omega)
  · by_cases e : j = k
    · simp [setM, e] at hc
    · exact non j hj (by simpa [setM, e] using hc)
  · obtain ⟨j, hj, hb'⟩ := hb
    exact ⟨j, hj, setM_ext hM j b hb'⟩
end Go.Proofs.Ybulkdljs
