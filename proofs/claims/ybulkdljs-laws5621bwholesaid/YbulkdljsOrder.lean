/-
  The walks over the tree's add: (*keyNode).add at a leaf, (*sortedKeys).add.
-/
import Derived.Test.YbulkdljsSearch
import Derived.Test.YbulkdljsInsert
import Derived.Lib.SliceRun
namespace Go.Proofs.Ybulkdljs
open Go.RowKit

/-- A leaf: its entries are pointers to histories, which P names. -/
structure Leaf (w : World) (ρ : Nat → Nat) (P : Nat → Prop) (node n : Nat) : Prop where
  role : ρ node = 104
  ex : ∃ ev xs, objAt w node = some (.cells #[ev, .slice none 0 0] 95 (0, 0)) ∧ w.ownsRow 0 45 1 ev n xs ∧ (∀ g, ev.ownBlock = some g → ρ g = 105) ∧ ∀ x ∈ xs, ∃ hb, P hb ∧ x = ptrB hb

theorem Leaf.fr {S : Nat → Prop} {ρ ρ' : Nat → Nat} {w w' : World} {P P' : Nat → Prop} {node n : Nat} (h : Leaf w ρ P node n) (f : Fr S ρ ρ' w w') (h1 : ¬ S 104) (h2 : ¬ S 105) (hP : ∀ b, P b → P' b) : Leaf w' ρ' P' node n := by
  obtain ⟨hr, ev, xs, ho, hw, he, hx⟩ := h
  exact ⟨by rw [f.role _ (obj_lt ho)]; exact hr, ev, xs, f.obj ho (by rw [hr]; exact h1), f.owns hw (fun g hg => by rw [he g hg]; exact h2), f.roleOf hw he, fun x hx' => by
    obtain ⟨hb, q, e⟩ := hx x hx'
    exact ⟨hb, hP hb q, e⟩⟩

theorem Fr.ofBelow {S : Nat → Prop} {ρ : Nat → Nat} {w w' : World} (h : Below w.heap.size w w') : Fr S ρ ρ w w' :=
  ⟨h.os, h.tape, h.output, h.size, fun b hb _ => h.block b hb, fun _ _ => rfl, fun ht b hb => ht b (by have := h.size; omega)⟩

theorem leaf_ents {w : World} {ev : Value} {n : Nat} {xs : List Value} {P : Nat → Prop} (hw : w.ownsRow 0 45 1 ev n xs) (hx : ∀ x ∈ xs, ∃ hb, P hb ∧ x = ptrB hb) (hP : ∀ hb, P hb → ∃ s, w.cell? ⟨hb, 0, none⟩ = some (.string s)) :
    ∃ ao cap, ev = .slice ao n cap ∧ Ents w ao n := by
  have hl : xs.length = n := by have := hw.1; omega
  obtain ⟨ao, cap, rfl⟩ := form_any hw
  refine ⟨ao, cap, rfl, fun i hi => ?_⟩
  obtain ⟨g, cap', e, _, _⟩ := hw.form (by omega)
  cases e
  have hi' : i < xs.length := by omega
  obtain ⟨hb, q, e⟩ := hx xs[i] (List.getElem_mem hi')
  obtain ⟨s, hs⟩ := hP hb q
  exact ⟨g, hb, s, rfl, row_cell hw (by rw [List.getElem?_eq_getElem hi', e]; rfl), hs⟩

/-- What add leaves at a leaf. -/
def ARes (w : World) (ρ : Nat → Nat) (P : Nat → Prop) (node n hbn : Nat) (e : Ending) (w' : World) : Prop :=
  ∃ ρ' n', e = .returned (.tuple #[.pointer none, .pointer none]) ∧ n' ≤ n + 1 ∧ Fr (fun r => r = 104 ∨ r = 105) ρ ρ' w w' ∧ Leaf w' ρ' (fun b => P b ∨ b = hbn) node n'

set_option maxRecDepth 100000 in
set_option maxHeartbeats 2000000 in
theorem nodeAdd_any (ρ : Nat → Nat) (P : Nat → Prop) (node n hbn : Nat) (s : ByteArray) (w : World) (hn : n ≤ 50) (hL : Leaf w ρ P node n) (hP : ∀ hb, P hb → ∃ s, w.cell? ⟨hb, 0, none⟩ = some (.string s)) (hs : w.cell? ⟨hbn, 0, none⟩ = some (.string s)) :
    Calls Yba.prog 21 #[.pointer (some ⟨node, 0, none⟩), .pointer (some ⟨hbn, 0, none⟩)] w (ARes w ρ P node n hbn) := by
  obtain ⟨hr, ev, xs, ho, hw, he, hx⟩ := id hL
  obtain ⟨ao, cap, rfl, hE⟩ := leaf_ents hw hx hP
  have hm := method_sortKey
  have c0 : w.cell? ⟨node, 0, none⟩ = some (.slice ao n cap) := obj_cell ho 0
  have sa := hid (fun k => search_any node n cap ao s (w.drewN k) (by omega) c0 hE)
  have q93 : ∀ (w : World) (a : Option Addr) (n c n' c' : Nat), (binOp .eql 93 (.slice a n c) (.slice none n' c')).run Yba.prog w = .ok (.bool a.isNone) w := fun w a n c n' c' => Lib.run_eql_slice_nil w _ _ a n c n' c' Yba.underlying93
  clear hE
  replace hw := hid hw
  replace ho := hid ho
  replace hL := hid hL
  have hnl : node < w.heap.size := obj_lt ho
  have hbl : hbn < w.heap.size := World.block_lt_of_cell? _ _ hs
  have hone : ∀ v ∈ xs, v.oneCell' = true := fun v hv => by
    obtain ⟨hb, _, e⟩ := hx v hv
    rw [e]; rfl
  have hne : (Value.slice ao n cap).ownBlock ≠ some node := fun e => by have := he node e; omega
  have hevl : ∀ g, (Value.slice ao n cap).ownBlock = some g → g < w.heap.size := fun g hg => (World.ownsRow.lt (show w.ownsRow 0 45 1 (.slice ao n cap) n xs from hw) g hg).2
  have k1 : (n : Int) + 1 ≤ 63 := by omega
  go_enter Yba.func21, Yba.ntmps21
  go_wp2_with (first
    | (go_at_call 55; refine (sortKey_any hbn s _ ?_).mono ?_; exact hs; rintro e w' ⟨rfl, e2⟩; rw [e2])
    | (go_at_call 23; refine (sa 0).mono ?_; intro e w1 hq; obtain ⟨r, f, hrn, rfl, hB⟩ := hq; replace hB : Hid (Below w.heap.size w w1) := hB
       have d0 : w1.cell? ⟨node, 0, none⟩ = some (.slice ao n cap) := (Below.cell hB hnl).trans (obj_cell ho 0)
       have d1 : w1.cell? ⟨node, 1, none⟩ = some (.slice none 0 0) := (Below.cell hB hnl).trans (obj_cell ho 1)
       have rw1 : Hid (∀ o, (w1.alloc o).ownsRow 0 45 1 (.slice ao n cap) n xs) := fun o => (Fr.owns (S := fun _ => False) (ρ := ρ) (Fr.ofBelow hB) hw (fun _ _ h => h)).alloc o)
    | (go_at_call 24; refine (insert_any (.slice ao n cap) n r w1.heap.size (ptrB hbn) xs _ hrn (by omega) (rw1 _) hone (heapN _ _ _ rfl) (fun e => absurd (hevl _ e) (by have := Below.size hB; omega)) rfl).mono ?_
       intro e w2 hq; obtain ⟨g, cap2, rfl, hown2, hgr2, hat, hlt2⟩ := hq
       replace hown2 := hid hown2
       replace hgr2 := hid hgr2
       replace hat := hid hat
       have g0 : w2.cell? ⟨node, 0, none⟩ = some (.slice ao n cap) := (World.grownBy.cell_far hgr2 ⟨node, 0, none⟩ (by have := Below.size hB; simp; omega) (Ne.symm hne)).trans ((World.cell?_alloc_past _ _ _ (by have := Below.size hB; omega)).trans d0)
       have g1 : w2.frozen? ⟨node, 0, none⟩ = false := (World.grownBy.frozen_far hgr2 ⟨node, 0, none⟩ (by have := Below.size hB; simp; omega) (Ne.symm hne)).trans ((World.frozen?_alloc_past _ _ _ (by have := Below.size hB; omega)).trans ((Below.frozen hB hnl).trans (obj_frozen ho 0)))))
  · go_ret2
    exact ⟨ρ, n, rfl, by omega, Fr.ofBelow hB, Leaf.fr hL (Fr.ofBelow (S := fun _ => False) hB) (fun h => h) (fun h => h) (fun b => Or.inl)⟩
  · go_ret2
    have hB' : Below w.heap.size w w1 := hB
    have hat' : (Value.slice ao n cap).ownBlock = some g ∨ (w1.alloc (.cells #[ptrB hbn] 45)).heap.size ≤ g := hat
    have hgr' : (w1.alloc (.cells #[ptrB hbn] 45)).grownBy w2 (Value.slice ao n cap).ownBlock := hgr2
    have hw2 : w2.ownsRow 0 45 1 (.slice (some ⟨g, 0, none⟩) (n + 1) cap2) (n + 1) (xs.take r ++ ptrB hbn :: xs.drop r) := hown2
    have hsz := hB'.size
    have hsz2 := hgr'.size
    simp only [World.size_alloc] at hat' hsz2
    have gold : ∀ b, b < w.heap.size → b = g → ρ b = 105 := fun b hb e => by
      subst e
      rcases hat' with e | e
      · exact he b e
      · omega
    have hng : node ≠ g := fun e => by have := gold node hnl e; omega
    have oN : objAt w2 node = some (.cells #[.slice ao n cap, .slice none 0 0] 95 (0, 0)) :=
      (hgr'.block node (by simp; omega) (Ne.symm hne)).trans ((heapP _ _ _ (by omega)).trans ((hB'.block node hnl).trans ho))
    have f1 : Fr (fun r => r = 104 ∨ r = 105) ρ ρ w w2 := ((Fr.ofBelow hB').alloc _).grown hgr' (fun g e => Or.inr (he g e))
    have f2 : Fr (fun r => r = 104 ∨ r = 105) ρ ρ w (w2.setCell ⟨node, 0, none⟩ (.slice (some ⟨g, 0, none⟩) (n + 1) cap2)) := f1.setCell (a := ⟨node, 0, none⟩) (Or.inl hr) _
    have f3 : Fr (fun r => r = 104) (upd ρ g 105) (upd ρ g 105) w2 (w2.setCell ⟨node, 0, none⟩ (.slice (some ⟨g, 0, none⟩) (n + 1) cap2)) := (Fr.refl _ _ w2).setCell (a := ⟨node, 0, none⟩) (by show upd ρ g 105 node = 104; rw [upd_other _ hng]; exact hr) _
    refine ⟨upd ρ g 105, n + 1, rfl, Nat.le_refl _, f2.rerole (fun b hb => ?_) (fun b hb => ?_), ⟨by rw [upd_other _ hng]; exact hr, _, _, obj_set oN 0 _, f3.owns hw2 (fun g' hg' => ?_), fun g' hg' => ?_, fun x hx' => ?_⟩⟩
    · by_cases e : b = g
      · rw [e, upd_same]; exact (e ▸ gold b hb e).symm
      · rw [upd_other _ e]
    · simp only [World.size_setCell] at hb
      rw [upd_other _ (by omega)]
    · have : g' = g := by simpa [Value.ownBlock] using hg'.symm
      rw [this, upd_same]; omega
    · have : g' = g := by simpa [Value.ownBlock] using hg'.symm
      rw [this, upd_same]
    · simp only [List.mem_append, List.mem_cons] at hx'
      rcases hx' with h | h | h
      · obtain ⟨hb, q, e⟩ := hx x (List.mem_of_mem_take h)
        exact ⟨hb, Or.inl q, e⟩
      · exact ⟨hbn, Or.inr rfl, h⟩
      · obtain ⟨hb, q, e⟩ := hx x (List.mem_of_mem_drop h)
        exact ⟨hb, Or.inl q, e⟩

/-- The tree: empty, or one leaf. -/
def Ord (w : World) (ρ : Nat → Nat) (P : Nat → Prop) (ov : Value) (n : Nat) : Prop := ov = .pointer none ∨ ∃ node, ov = ptrB node ∧ Leaf w ρ P node n

theorem Ord.fr {S : Nat → Prop} {ρ ρ' : Nat → Nat} {w w' : World} {P P' : Nat → Prop} {ov : Value} {n : Nat} (h : Ord w ρ P ov n) (f : Fr S ρ ρ' w w') (h1 : ¬ S 104) (h2 : ¬ S 105) (hP : ∀ b, P b → P' b) : Ord w' ρ' P' ov n := by
  rcases h with h | ⟨node, h, hL⟩
  · exact .inl h
  · exact .inr ⟨node, h, hL.fr f h1 h2 hP⟩

def ORes (w : World) (ρ : Nat → Nat) (P : Nat → Prop) (X : Nat) (XA : Array Value) (n hbn : Nat) (e : Ending) (w' : World) : Prop :=
  ∃ ρ' n' ov', e = .returned (.tuple #[]) ∧ n' ≤ n + 1 ∧ Fr (fun r => r = 100 ∨ r = 104 ∨ r = 105) ρ ρ' w w' ∧ objAt w' X = some (.cells (XA.setIfInBounds 1 ov') 36 (0, 0)) ∧ Ord w' ρ' (fun b => P b ∨ b = hbn) ov' n'

theorem set_same {A : Array Value} {i : Nat} {v : Value} (h : A[i]? = some v) : A.setIfInBounds i v = A := by
  apply Array.ext_getElem?
  intro j
  rw [Array.getElem?_setIfInBounds]
  split
  · rename_i e
    subst e
    rw [h]
    split
    · rfl
    · rename_i q
      exact absurd (Array.getElem?_eq_some_iff.1 h).1 q
  · rfl

set_option maxRecDepth 100000 in
set_option maxHeartbeats 2000000 in
theorem sortedAdd_any (ρ : Nat → Nat) (P : Nat → Prop) (X : Nat) (XA : Array Value) (ov : Value) (n hbn : Nat) (s : ByteArray) (w : World) (hn : n ≤ 50) (hXo : objAt w X = some (.cells XA 36 (0, 0))) (hX1 : XA[1]? = some ov) (hρ : ρ X = 100)
    (hO : Ord w ρ P ov n) (hP : ∀ hb, P hb → ∃ s, w.cell? ⟨hb, 0, none⟩ = some (.string s)) (hs : w.cell? ⟨hbn, 0, none⟩ = some (.string s)) :
    Calls Yba.prog 19 #[.pointer (some ⟨X, 1, none⟩), .pointer (some ⟨hbn, 0, none⟩)] w (ORes w ρ P X XA n hbn) := by
  have hXl : X < w.heap.size := obj_lt hXo
  have hbl : hbn < w.heap.size := World.block_lt_of_cell? _ _ hs
  have c1 : w.cell? ⟨X, 1, none⟩ = some ov := (obj_cell hXo 1).trans hX1
  have f1 : w.frozen? ⟨X, 1, none⟩ = false := obj_frozen hXo 1
  rcases hO with rfl | ⟨node, rfl, hL⟩
  · obtain ⟨W, hW⟩ : ∃ W, W = (w.setCell ⟨X, 1, none⟩ (.pointer (some ⟨w.heap.size, 0, none⟩))).alloc (.cells #[.slice none 0 0, .slice none 0 0] 95) := ⟨_, rfl⟩
    have hsz : (w.setCell ⟨X, 1, none⟩ (.pointer (some ⟨w.heap.size, 0, none⟩))).heap.size = w.heap.size := by simp
    have F0 : Fr (fun r => r = 100) ρ ρ w (w.setCell ⟨X, 1, none⟩ (.pointer (some ⟨w.heap.size, 0, none⟩))) := (Fr.refl _ ρ w).setCell (a := ⟨X, 1, none⟩) hρ _
    have F1 : Fr (fun r => r = 100) ρ (upd ρ w.heap.size 104) w W := by
      have := F0.allocAs (.cells #[.slice none 0 0, .slice none 0 0] 95) 104
      rw [hsz] at this
      rw [hW]; exact this
    have oX : objAt W X = some (.cells (XA.setIfInBounds 1 (.pointer (some ⟨w.heap.size, 0, none⟩))) 36 (0, 0)) := by
      rw [hW, heapP _ _ _ (by rw [hsz]; exact hXl)]; exact obj_set hXo 1 _
    have oN : objAt W w.heap.size = some (.cells #[.slice none 0 0, .slice none 0 0] 95 (0, 0)) := by rw [hW]; exact heapN _ _ _ hsz.symm
    have hL : Leaf W (upd ρ w.heap.size 104) P w.heap.size 0 := ⟨upd_same _ _ _, _, [], oN, ⟨rfl, .inl ⟨rfl, rfl⟩⟩, fun g hg => (by simp [Value.ownBlock] at hg), fun x hx => (by simp at hx)⟩
    have cell' : ∀ hb v, w.cell? ⟨hb, 0, none⟩ = some v → W.cell? ⟨hb, 0, none⟩ = some v := fun hb v h => by
      have hl := World.block_lt_of_cell? _ _ h
      rw [hW, World.cell?_alloc_past _ _ _ (by rw [hsz]; exact hl), World.cell?_setCell_other _ _ _ _ (by simp)]
      exact h
    have na := hid (nodeAdd_any (upd ρ w.heap.size 104) P w.heap.size 0 hbn s W (by omega) hL (fun hb q => by
      obtain ⟨s', hs'⟩ := hP hb q
      exact ⟨s', cell' hb _ hs'⟩) (cell' hbn _ hs))
    have oX1 : W.cell? ⟨X, 1, none⟩ = some (.pointer (some ⟨w.heap.size, 0, none⟩)) := by
      rw [obj_cell oX, Array.getElem?_setIfInBounds, if_pos rfl, if_pos (Array.getElem?_eq_some_iff.1 hX1).1]
    replace hXo := hid hXo
    replace hX1 := hid hX1
    replace hW := hid hW
    replace F1 := hid F1
    replace oX := hid oX
    clear F0 hsz oN hL cell' hP hs
    go_enter Yba.func19, Yba.ntmps19
    go_wp2_with (first | (go_at_call 21; rw [← hW]; refine Calls.mono na ?_; intro e w1 hq; obtain ⟨ρ', n', rfl, hn', hf, hL'⟩ := hq))
    refine bodyPost_end (results_none rfl _ _ _) rfl ?_
    have F1' : Fr (fun r => r = 100) ρ (upd ρ w.heap.size 104) w W := F1
    have rX : upd ρ w.heap.size 104 X = 100 := (F1'.role X hXl).trans hρ
    exact ⟨ρ', n', _, rfl, by omega, (F1'.mono (fun r h => Or.inl h)).trans (hf.mono (fun r h => Or.inr h)), hf.obj oX (by rw [rX]; omega), .inr ⟨_, rfl, hL'⟩⟩
  · have na := hid (nodeAdd_any ρ P node n hbn s w hn hL hP hs)
    have c1' : w.cell? ⟨X, 1, none⟩ = some (.pointer (some ⟨node, 0, none⟩)) := c1
    replace hXo := hid hXo
    replace hX1 := hid hX1
    clear c1 hL hP hs
    go_enter Yba.func19, Yba.ntmps19
    go_wp2_with (first | (go_at_call 21; refine Calls.mono na ?_; intro e w1 hq; obtain ⟨ρ', n', rfl, hn', hf, hL'⟩ := hq))
    refine bodyPost_end (results_none rfl _ _ _) rfl ?_
    exact ⟨ρ', n', ptrB node, rfl, hn', hf.mono (fun r h => Or.inr h), by rw [set_same hX1]; exact hf.obj hXo (by rw [hρ]; omega), .inr ⟨_, rfl, hL'⟩⟩
end Go.Proofs.Ybulkdljs
