/-
  The walks over the timeline: set, append, withRoom.
-/
import Derived.Test.YbulkdljsWhole
import Derived.Deep.RegionHeld3
import Derived.Deep.RegionHeldLaw
import Derived.Deep.QuietTactic
import Derived.BigQuiet
import Derived.BigRegion
import Derived.Deep.Light
namespace Go.Proofs.Ybulkdljs
open Go.RowKit
attribute [local go_sem ↓] ld59_fold st59_fold zv79_fold
attribute [local go_sem] zv79_run ld59_whole whole_ok wstore_ok heapN heapP heapD setsN setsP setsD heapDN allocDN cellDN setsDN spl size_sets Value.oneCell'

theorem grown_setCell (w : World) (a : Addr) (v : Value) : w.grownBy (w.setCell a v) (some a.block) :=
  ⟨rfl, rfl, rfl, by simp [World.setCell], fun b _ hs => Below.heap_setCell _ _ _ _ (fun e => hs (by rw [e]))⟩
theorem grown_sets (w : World) (d o : Nat) (vs : List Value) : w.grownBy (w.setCells d o vs) (some d) := by
  induction vs generalizing o w with
  | nil => exact ⟨rfl, rfl, rfl, Nat.le_refl _, fun _ _ _ => rfl⟩
  | cons v vs ih =>
    rw [World.setCells]
    exact (grown_setCell w ⟨d, o, none⟩ v).trans (ih _ _)

set_option maxRecDepth 100000 in
set_option maxHeartbeats 1000000 in
/-- A place goes to the i-th spot. -/
theorem set_any (X tb nb cap d q r : Nat) (i m s : Int) (hv : Option Addr) (A : Array Value) (w : World) (h1 : w.cell? ⟨X, 2, none⟩ = some (.slice (some ⟨tb, 0, none⟩) nb cap))
    (hq : Int.tdiv i 1024 = (q : Int)) (hr : Int.tmod i 1024 = (r : Int)) (hqn : (q : Int) < (nb : Int)) (hrn : (r : Int) < 1024) (hnb : nb ≤ 1048576)
    (h2 : w.cell? ⟨tb, q, none⟩ = some (.pointer (some ⟨d, 0, none⟩))) (h3 : objAt w d = some (.cells A 79 (0, 0))) (hA : A.size = 3072) (n1 : X ≠ d) (n2 : tb ≠ d) :
    Calls Yba.prog 10 #[.pointer (some ⟨X, 2, none⟩), .int .i64 i, .agg #[.int .i64 m, .int .i64 s, .pointer hv]] w fun e w' =>
      e = .returned (.tuple #[]) ∧ w.grownBy w' (some d) ∧ objAt w' d = some (.cells (spl A (r * 3) [.int .i64 m, .int .i64 s, .pointer hv]) 79 (0, 0)) := by
  have hgr : Hid (w.grownBy ((w.setCells d (r * 3) [.int .i64 m, .int .i64 s, .pointer hv]).alloc (.cells #[.int .i64 m, .int .i64 s, .pointer hv] 59)).drew (some d)) :=
    (grown_sets w d _ _).trans ((World.grownBy_alloc _ _ _).trans ⟨rfl, rfl, rfl, Nat.le_refl _, fun _ _ _ => rfl⟩)
  have hob : Hid (objAt ((w.setCells d (r * 3) [.int .i64 m, .int .i64 s, .pointer hv]).alloc (.cells #[.int .i64 m, .int .i64 s, .pointer hv] 59)).drew d = some (.cells (spl A (r * 3) [.int .i64 m, .int .i64 s, .pointer hv]) 79 (0, 0))) :=
    (heapD _ _).trans ((heapP _ _ _ (by rw [size_sets]; exact obj_lt h3)).trans (obj_sets _ _ _ _ h3))
  have hX : X < w.heap.size := World.block_lt_of_cell? _ _ h1
  have htb : tb < w.heap.size := World.block_lt_of_cell? _ _ h2
  have hd : d < w.heap.size := obj_lt h3
  have i1 : (0 : Int) ≤ (q : Int) := by omega
  have i2 : (0 : Int) ≤ (r : Int) := by omega
  have i3 : r * 3 + 3 ≤ 3072 := by omega
  have ht : w.there d (r * 3) 3 := obj_there h3 _ _ (by omega)
  have i4 : IntKind.i64.wrap (q : Int) = (q : Int) := IntWalk.i64_in _ (by omega)
  have i5 : wrap64 (q : Int) = (q : Int) := IntWalk.wrap64_in _ (by omega)
  have i6 : IntKind.i64.wrap (r : Int) = (r : Int) := IntWalk.i64_in _ (by omega)
  have i7 : wrap64 (r : Int) = (r : Int) := IntWalk.wrap64_in _ (by omega)
  have hst : ∀ w' : World, w'.there d (r * 3) 3 → (stT 59 (.pointer (some ⟨d, r * 3, none⟩)) (.agg #[.int .i64 m, .int .i64 s, .pointer hv])).run Yba.prog w' = .ok () (w'.setCells d (r * 3) [.int .i64 m, .int .i64 s, .pointer hv]) := fun w' h =>
    run_storeAt_mid w' d (r * 3) 59 #[.int .i64 m, .int .i64 s, .pointer hv] h info59 (by simp [Value.oneCell'])
  have J0 : (w.alloc (.cells #[.int .i64 m, .int .i64 s, .pointer hv] 59)).cell? ⟨X, 2, none⟩ = some (.slice (some ⟨tb, 0, none⟩) nb cap) ∧ (w.alloc (.cells #[.int .i64 m, .int .i64 s, .pointer hv] 59)).cell? ⟨tb, q, none⟩ = some (.pointer (some ⟨d, 0, none⟩)) ∧ objAt (w.alloc (.cells #[.int .i64 m, .int .i64 s, .pointer hv] 59)) w.heap.size = some (.cells #[.int .i64 m, .int .i64 s, .pointer hv] 59 (0, 0)) ∧ (w.alloc (.cells #[.int .i64 m, .int .i64 s, .pointer hv] 59)).there d (r * 3) 3 := ⟨(World.cell?_alloc_past _ _ _ hX).trans h1, (World.cell?_alloc_past _ _ _ htb).trans h2, heapN _ _ _ rfl, World.there_alloc ht _⟩
  have J1 : ((w.setCells d (r * 3) [.int .i64 m, .int .i64 s, .pointer hv]).alloc (.cells #[.int .i64 m, .int .i64 s, .pointer hv] 59)).cell? ⟨X, 2, none⟩ = some (.slice (some ⟨tb, 0, none⟩) nb cap) ∧ ((w.setCells d (r * 3) [.int .i64 m, .int .i64 s, .pointer hv]).alloc (.cells #[.int .i64 m, .int .i64 s, .pointer hv] 59)).cell? ⟨tb, q, none⟩ = some (.pointer (some ⟨d, 0, none⟩)) ∧ objAt ((w.setCells d (r * 3) [.int .i64 m, .int .i64 s, .pointer hv]).alloc (.cells #[.int .i64 m, .int .i64 s, .pointer hv] 59)) w.heap.size = some (.cells #[.int .i64 m, .int .i64 s, .pointer hv] 59 (0, 0)) ∧ ((w.setCells d (r * 3) [.int .i64 m, .int .i64 s, .pointer hv]).alloc (.cells #[.int .i64 m, .int .i64 s, .pointer hv] 59)).there d (r * 3) 3 :=
    ⟨(World.cell?_alloc_past _ _ _ (by simpa [size_sets] using hX)).trans ((World.cell?_setCells_out d _ _ w ⟨X, 2, none⟩ (fun e _ => (n1 e).elim)).trans h1),
     (World.cell?_alloc_past _ _ _ (by simpa [size_sets] using htb)).trans ((World.cell?_setCells_out d _ _ w ⟨tb, q, none⟩ (fun e _ => (n2 e).elim)).trans h2), heapN _ _ _ (by rw [size_sets]), World.there_alloc (World.there_setCells ht _ _ _) _⟩
  have K0 : (w.alloc (.cells #[.int .i64 m, .int .i64 s, .pointer hv] 59)).drew.cell? ⟨X, 2, none⟩ = some (.slice (some ⟨tb, 0, none⟩) nb cap) ∧ (w.alloc (.cells #[.int .i64 m, .int .i64 s, .pointer hv] 59)).drew.cell? ⟨tb, q, none⟩ = some (.pointer (some ⟨d, 0, none⟩)) ∧ objAt (w.alloc (.cells #[.int .i64 m, .int .i64 s, .pointer hv] 59)).drew w.heap.size = some (.cells #[.int .i64 m, .int .i64 s, .pointer hv] 59 (0, 0)) ∧ (w.alloc (.cells #[.int .i64 m, .int .i64 s, .pointer hv] 59)).drew.there d (r * 3) 3 := J0
  have K1 : ((w.setCells d (r * 3) [.int .i64 m, .int .i64 s, .pointer hv]).alloc (.cells #[.int .i64 m, .int .i64 s, .pointer hv] 59)).drew.cell? ⟨X, 2, none⟩ = some (.slice (some ⟨tb, 0, none⟩) nb cap) ∧ ((w.setCells d (r * 3) [.int .i64 m, .int .i64 s, .pointer hv]).alloc (.cells #[.int .i64 m, .int .i64 s, .pointer hv] 59)).drew.cell? ⟨tb, q, none⟩ = some (.pointer (some ⟨d, 0, none⟩)) ∧ objAt ((w.setCells d (r * 3) [.int .i64 m, .int .i64 s, .pointer hv]).alloc (.cells #[.int .i64 m, .int .i64 s, .pointer hv] 59)).drew w.heap.size = some (.cells #[.int .i64 m, .int .i64 s, .pointer hv] 59 (0, 0)) ∧ ((w.setCells d (r * 3) [.int .i64 m, .int .i64 s, .pointer hv]).alloc (.cells #[.int .i64 m, .int .i64 s, .pointer hv] 59)).drew.there d (r * 3) 3 := J1
  clear J0 J1
  clear h1 h2 h3
  go_enter Yba.func10, Yba.ntmps10
  go_wp2
  go_region_held3 (fun w' => w'.cell? ⟨X, 2, none⟩ = some (.slice (some ⟨tb, 0, none⟩) nb cap) ∧ w'.cell? ⟨tb, q, none⟩ = some (.pointer (some ⟨d, 0, none⟩)) ∧ objAt w' w.heap.size = some (.cells #[.int .i64 m, .int .i64 s, .pointer hv] 59 (0, 0)) ∧ w'.there d (r * 3) 3)
    (first | with_reducible exact K0 | with_reducible exact K1) (fail)
  go_wp2
  refine bodyPost_end (results_none rfl _ _ _) rfl ?_
  exact ⟨rfl, hgr, hob⟩

/-! ### The timeline -/
structure Plc where
  main : Int
  sub : Int
  h : Nat
def Plc.cells (p : Plc) : List Value := [.int .i64 p.main, .int .i64 p.sub, .pointer (some ⟨p.h, 0, none⟩)]
def ptrB (b : Nat) : Value := .pointer (some ⟨b, 0, none⟩)

/-- The timeline's blocks 'bl' (their pointers in the row of the slice value tv) hold the places pl. -/
structure TL (w : World) (ρ : Nat → Nat) (tv : Value) (bl : List Nat) (pl : List Plc) : Prop where
  row : w.ownsRow 0 76 1 tv bl.length (bl.map ptrB)
  role : ∀ g, tv.ownBlock = some g → ρ g = 102
  blk : ∀ i d, bl[i]? = some d → ρ d = 1000 + i ∧ ∃ A, objAt w d = some (.cells A 79 (0, 0)) ∧ A.size = 3072 ∧ ∀ r, r < 1024 → ∀ p, pl[i * 1024 + r]? = some p → ∀ j, j < 3 → A[r * 3 + j]? = p.cells[j]?
  room : pl.length ≤ bl.length * 1024

theorem TL.fr {S : Nat → Prop} {ρ ρ' : Nat → Nat} {w w' : World} {tv : Value} {bl : List Nat} {pl : List Plc} (h : TL w ρ tv bl pl) (f : Fr S ρ ρ' w w') (h1 : ¬ S 102) (h2 : ∀ i, ¬ S (1000 + i)) : TL w' ρ' tv bl pl := by
  refine ⟨f.owns h.row (fun g hg => by rw [h.role g hg]; exact h1), f.roleOf h.row h.role, fun i d hd => ?_, h.room⟩
  obtain ⟨hr, A, hA, r⟩ := h.blk i d hd
  exact ⟨by rw [f.role d (obj_lt hA)]; exact hr, A, f.obj hA (by rw [hr]; exact h2 i), r⟩

theorem TL.tvlt {ρ : Nat → Nat} {w : World} {tv : Value} {bl : List Nat} {pl : List Plc} (h : TL w ρ tv bl pl) : ∀ g, tv.ownBlock = some g → g < w.heap.size := fun g hg => (h.row.lt g hg).2

/-- Behind the store of a place at the end. -/
theorem TL.push {ρ : Nat → Nat} {w w' : World} {tv : Value} {bl : List Nat} {pl : List Plc} (h : TL w ρ tv bl pl) (p : Plc) {q r d : Nat} {A : Array Value} (hd : bl[q]? = some d) (hA : objAt w d = some (.cells A 79 (0, 0)))
    (hqr : pl.length = q * 1024 + r) (hr : r < 1024) (hg : w.grownBy w' (some d)) (ho : objAt w' d = some (.cells (spl A (r * 3) p.cells) 79 (0, 0))) : TL w' ρ tv bl (pl ++ [p]) := by
  obtain ⟨hd1, A', hA', hs, hold⟩ := h.blk q d hd
  have : A' = A := by rw [hA] at hA'; cases hA'; rfl
  subst this
  have f : Fr (fun k => k = 1000 + q) ρ ρ w w' := (Fr.refl _ ρ w).grown hg (fun g e => by cases e; exact hd1)
  have hq : q < bl.length := (List.getElem?_eq_some_iff.1 hd).1
  refine ⟨f.owns h.row (fun g hg => by rw [h.role g hg]; omega), h.role, fun i e he => ?_, by simp; omega⟩
  obtain ⟨he1, B, hB, hBs, hBold⟩ := h.blk i e he
  refine ⟨he1, ?_⟩
  by_cases hiq : i = q
  · subst hiq
    have : e = d := by rw [hd] at he; exact (Option.some.inj he).symm
    subst this
    refine ⟨_, ho, by rw [spl_size, hs], fun r' hr' p' hp' j hj => ?_⟩
    rw [spl_get _ _ _ _ (by simp [Plc.cells]; omega)]
    by_cases hrr : r' = r
    · subst hrr
      rw [← hqr, List.getElem?_append_right (Nat.le_refl _)] at hp'
      simp at hp'
      subst hp'
      rw [if_pos (by simp [Plc.cells]; omega), show r' * 3 + j - r' * 3 = j by omega]
    · have hlt : i * 1024 + r' < pl.length := by
        have := (List.getElem?_eq_some_iff.1 hp').1
        simp at this
        omega
      rw [if_neg (by simp [Plc.cells]; omega)]
      rw [List.getElem?_append_left hlt] at hp'
      exact hold r' hr' p' hp' j hj
  · refine ⟨B, f.obj hB (by rw [he1]; omega), hBs, fun r' hr' p' hp' j hj => ?_⟩
    have hlt : i * 1024 + r' < pl.length := by
      have := (List.getElem?_eq_some_iff.1 hp').1
      simp at this
      rcases Nat.lt_or_ge (i * 1024 + r') pl.length with h | h
      · exact h
      · exfalso; omega
    rw [List.getElem?_append_left hlt] at hp'
    exact hBold r' hr' p' hp' j hj

/-- As W, but for the choices drawn. -/
structure Same (W w : World) : Prop where
  heap : w.heap = W.heap
  os : w.os = W.os
  tape : w.tape = W.tape
  output : w.output = W.output
theorem Same.grown {W w w2 : World} {row : Option Nat} (h : Same W w) (hg : w.grownBy w2 row) : W.grownBy w2 row :=
  ⟨hg.os.trans h.os, hg.tape.trans h.tape, hg.output.trans h.output, by rw [← h.heap]; exact hg.size, fun b hb hn => by rw [← h.heap] at hb ⊢; exact hg.block b hb hn⟩
theorem _root_.Go.World.grownBy.same {W w w2 : World} {row : Option Nat} (hg : w.grownBy w2 row) (h : Same W w) : W.grownBy w2 row := h.grown hg
theorem Same.cell {W w : World} (h : Same W w) (a : Addr) : w.cell? a = W.cell? a := World.cell?_of_block (by rw [h.heap])
theorem Same.obj {W w : World} (h : Same W w) (b : Nat) : objAt w b = objAt W b := by unfold objAt; rw [h.heap]

theorem wr64 (x : Int) (h : 0 ≤ x) (h' : x ≤ 1152921504606846976) : IntKind.i64.wrap x = x ∧ wrap64 x = x := ⟨IntWalk.i64_in _ (by omega), IntWalk.wrap64_in _ (by omega)⟩

theorem grown_fr {w w' : World} {row : Option Nat} {ρ : Nat → Nat} (h : w.grownBy w' row) (S : Nat → Prop) (hr : ∀ g, row = some g → S (ρ g)) : Fr S ρ ρ w w' := (Fr.refl _ ρ w).grown h hr

theorem form_any {w : World} {base e size n : Nat} {v : Value} {xs : List Value} (h : w.ownsRow base e size v n xs) : ∃ ao cap, v = .slice ao n cap := by
  rcases h.2 with ⟨rfl, rfl⟩ | ⟨g, cap, cur, rfl, _⟩
  · exact ⟨_, _, rfl⟩
  · exact ⟨_, _, rfl⟩

theorem row_cell {w : World} {base e n : Nat} {xs : List Value} {g cap : Nat} (h : w.ownsRow base e 1 (.slice (some ⟨g, 0, none⟩) n cap) n xs) {i : Nat} {u : Value} (hu : xs[i]? = some u) : w.cell? ⟨g, i, none⟩ = some u := by
  rcases h.2 with ⟨h1, _⟩ | ⟨g', cap', cur, h1, _, hg, _, _, _, h6⟩
  · cases h1
  · cases h1
    rw [obj_cell hg]
    have := hu
    rw [← h6, List.getElem?_take] at this
    split at this
    · simpa using this
    · cases this

set_option maxRecDepth 100000 in
set_option maxHeartbeats 2000000 in
/-- timeline.append where there is room. -/
theorem append_room (X : Nat) (XA : Array Value) (ρ : Nat → Nat) (tv : Value) (bl : List Nat) (pl : List Plc) (p : Plc) (n : Nat) (w : World) (hn : n = pl.length)
    (hXo : objAt w X = some (.cells XA 36 (0, 0))) (hX2 : XA[2]? = some tv) (hX3 : XA[3]? = some (.int .i64 n)) (hρ : ρ X = 100) (hT : TL w ρ tv bl pl) (hlt : pl.length < bl.length * 1024) (hbl : bl.length ≤ 1048576) :
    Calls Yba.prog 6 #[.pointer (some ⟨X, 2, none⟩), .agg #[.int .i64 p.main, .int .i64 p.sub, .pointer (some ⟨p.h, 0, none⟩)]] w fun e w' =>
      e = .returned (.tuple #[]) ∧ Fr (fun r => r = 100 ∨ 1000 ≤ r) ρ ρ w w' ∧ objAt w' X = some (.cells (XA.setIfInBounds 3 (.int .i64 ((n : Int) + 1))) 36 (0, 0)) ∧ TL w' ρ tv bl (pl ++ [p]) := by
  have hnb : 0 < bl.length := by omega
  obtain ⟨tb, cap, rfl, _, htb⟩ := hT.row.form hnb
  obtain ⟨nb, hnbe⟩ : ∃ nb, bl.length = nb := ⟨_, rfl⟩
  rw [hnbe] at hX2 hlt hbl hnb
  obtain ⟨q, hq⟩ : ∃ q, q = n / 1024 := ⟨_, rfl⟩
  obtain ⟨r, hr⟩ : ∃ r, r = n % 1024 := ⟨_, rfl⟩
  have hqn : q < nb := by omega
  have hrn : r < 1024 := by omega
  have hqr : pl.length = q * 1024 + r := by omega
  have hdq : bl[q]? = some (bl[q]'(by omega)) := List.getElem?_eq_getElem (by omega)
  obtain ⟨d, hde⟩ : ∃ d, d = bl[q]'(by omega) := ⟨_, rfl⟩
  rw [← hde] at hdq
  obtain ⟨hd1, A, hA, hAs, _⟩ := hT.blk q d hdq
  have hXlt : X < w.heap.size := obj_lt hXo
  have hdlt : d < w.heap.size := obj_lt hA
  have htr : ρ tb = 102 := hT.role tb rfl
  have n1 : X ≠ d := fun e => by rw [e, hd1] at hρ; omega
  have n2 : tb ≠ d := fun e => by rw [e, hd1] at htr; omega
  have n3 : tb ≠ X := fun e => by rw [e, hρ] at htr; omega
  have tq : Int.tdiv (n : Int) 1024 = (q : Int) := by rw [Int.tdiv_eq_ediv_of_nonneg (by omega)]; omega
  have tr : Int.tmod (n : Int) 1024 = (r : Int) := by rw [Int.tmod_eq_emod_of_nonneg (by omega)]; omega
  have c2 : w.cell? ⟨X, 2, none⟩ = some (.slice (some ⟨tb, 0, none⟩) nb cap) := (obj_cell hXo 2).trans hX2
  obtain ⟨N, hN⟩ : ∃ N : Int, (n : Int) = N := ⟨_, rfl⟩
  have c3 : w.cell? ⟨X, 3, none⟩ = some (.int .i64 N) := by rw [← hN]; exact (obj_cell hXo 3).trans hX3
  have f3 : w.frozen? ⟨X, 3, none⟩ = false := obj_frozen hXo 3
  rw [hN] at tq tr
  have hqn' : (q : Int) < (nb : Int) := by omega
  have hrn' : (r : Int) < 1024 := by omega
  have j1 : ¬ (N = (nb : Int) * 1024) := by omega
  obtain ⟨⟨_, j3⟩, ⟨_, j5⟩, _, j7⟩ := And.intro (wr64 ((nb : Int) * 1024) (by omega) (by omega)) (And.intro (wr64 (N + 1) (by omega) (by omega)) (wr64 N (by omega) (by omega)))
  have hPd : ∃ P : Obj, P = .cells #[.int .i64 p.main, .int .i64 p.sub, .pointer (some ⟨p.h, 0, none⟩)] 59 := ⟨_, rfl⟩
  obtain ⟨W, hW⟩ : ∃ W : World, W = (w.setCell ⟨X, 3, none⟩ (.int .i64 (N + 1))).alloc (.cells #[.int .i64 p.main, .int .i64 p.sub, .pointer (some ⟨p.h, 0, none⟩)] 59) := ⟨_, rfl⟩
  have FW : Fr (fun r => r = 100) ρ ρ w W := by rw [hW]; exact ((Fr.refl _ ρ w).setCell (a := ⟨X, 3, none⟩) hρ _).alloc _
  have o1 : objAt W X = some (.cells (XA.setIfInBounds 3 (.int .i64 (N + 1))) 36 (0, 0)) := by
    rw [hW, heapP _ _ _ (by simpa [World.setCell] using hXlt)]
    exact obj_set hXo 3 _
  have o2 : objAt W w.heap.size = some (.cells #[.int .i64 p.main, .int .i64 p.sub, .pointer (some ⟨p.h, 0, none⟩)] 59 (0, 0)) := by
    rw [hW]
    exact heapN _ _ _ (by simp [World.setCell])
  have F1 : W.cell? ⟨X, 2, none⟩ = some (.slice (some ⟨tb, 0, none⟩) nb cap) := by
    rw [obj_cell o1, Array.getElem?_setIfInBounds, if_neg (by omega)]
    exact hX2
  have F2 : W.cell? ⟨tb, q, none⟩ = some (.pointer (some ⟨d, 0, none⟩)) := FW.cell (row_cell (hnbe ▸ hT.row) (by rw [List.getElem?_map, hdq]; rfl)) (by rw [htr]; omega)
  have F3 : objAt W d = some (.cells A 79 (0, 0)) := FW.obj hA (by rw [hd1]; omega)
  have F4 : W.cell? ⟨X, 3, none⟩ = some (.int .i64 (N + 1)) := by
    rw [obj_cell o1, Array.getElem?_setIfInBounds, if_pos rfl, if_pos]
    exact (Array.getElem?_eq_some_iff.1 hX3).1
  have hTW : TL W ρ (.slice (some ⟨tb, 0, none⟩) nb cap) bl pl := hnbe ▸ hT.fr FW (by omega) (fun i => by omega)
  have hWX : X < W.heap.size := obj_lt o1
  have hWH : w.heap.size < W.heap.size := obj_lt o2
  have K0 : ∀ w1, Same W w1 → w1.cell? ⟨X, 3, none⟩ = some (.int .i64 (N + 1)) ∧ objAt w1 w.heap.size = some (.cells #[.int .i64 p.main, .int .i64 p.sub, .pointer (some ⟨p.h, 0, none⟩)] 59 (0, 0)) := fun w1 h => ⟨(h.cell _).trans F4, (h.obj _).trans o2⟩
  have K1 : ∀ w1 w2, w1.grownBy w2 (some d) → Same W w1 → w2.cell? ⟨X, 3, none⟩ = some (.int .i64 (N + 1)) ∧ objAt w2 w.heap.size = some (.cells #[.int .i64 p.main, .int .i64 p.sub, .pointer (some ⟨p.h, 0, none⟩)] 59 (0, 0)) := fun w1 w2 hg hs =>
    ⟨((hs.grown hg).cell_far ⟨X, 3, none⟩ hWX (fun e => n1 (Option.some.inj e))).trans F4, ((hs.grown hg).block w.heap.size hWH (fun e => by have := Option.some.inj e; omega)).trans o2⟩
  have fin : ∀ w1 w2, w1.grownBy w2 (some d) → Same W w1 → objAt w2 d = some (.cells (spl A (r * 3) [.int .i64 p.main, .int .i64 p.sub, .pointer (some ⟨p.h, 0, none⟩)]) 79 (0, 0)) →
      Fr (fun r => r = 100 ∨ 1000 ≤ r) ρ ρ w w2 ∧ objAt w2 X = some (.cells (XA.setIfInBounds 3 (.int .i64 (N + 1))) 36 (0, 0)) ∧ TL w2 ρ (.slice (some ⟨tb, 0, none⟩) nb cap) bl (pl ++ [p]) := fun w1 w2 hg hs ho => by
    have hg' : W.grownBy w2 (some d) := hs.grown hg
    refine ⟨(FW.mono (fun r h => Or.inl h)).trans (grown_fr hg' _ (fun g e => by cases e; right; rw [hd1]; omega)), (hg'.block X hWX (fun e => n1 (Option.some.inj e))).trans o1, hTW.push p hdq F3 hqr hrn hg' ho⟩
  clear hPd
  replace hW := hid hW
  replace FW := hid FW
  replace o1 := hid o1
  replace o2 := hid o2
  replace F1 := hid F1
  replace F2 := hid F2
  replace F3 := hid F3
  replace F4 := hid F4
  replace hTW := hid hTW
  replace fin := hid fin
  replace K0 := hid K0
  replace K1 := hid K1
  replace hN := hid hN
  replace hn := hid hn
  replace hq := hid hq
  replace hr := hid hr
  replace hde := hid hde
  replace hqr := hid hqr
  replace hnbe := hid hnbe
  replace hdq := hid hdq
  replace hA := hid hA
  replace hXo := hid hXo
  replace hd1 := hid hd1
  replace hρ := hid hρ
  replace htr := hid htr
  replace hT := hid hT
  replace hX2 := hid hX2
  replace hX3 := hid hX3
  go_enter Yba.func6, Yba.ntmps6
  go_wp2
  go_quiet (fail)
  go_wp2
  rw [← hW]
  go_region_held3 (fun w' => w'.cell? ⟨X, 3, none⟩ = some (.int .i64 (N + 1)) ∧ objAt w' w.heap.size = some (.cells #[.int .i64 p.main, .int .i64 p.sub, .pointer (some ⟨p.h, 0, none⟩)] 59 (0, 0)))
    (first | exact K1 _ _ hg ⟨rfl, rfl, rfl, rfl⟩ | exact K0 _ ⟨rfl, rfl, rfl, rfl⟩)
    (first | (go_at_call 10; refine (set_any X tb nb cap d q r N p.main p.sub _ A _ ?_ tq tr hqn' hrn' hbl ?_ ?_ hAs n1 n2).mono ?_; exact F1; exact F2; exact F3; rintro e w2 ⟨rfl, hg, ho⟩))
  go_wp2
  refine bodyPost_end (results_none rfl _ _ _) rfl ?_
  obtain ⟨r1, r2, r3⟩ := fin _ _ hg ⟨rfl, rfl, rfl, rfl⟩ ho
  rw [← hN] at r2
  rw [← hnbe] at r3
  exact ⟨rfl, r1, r2, hnbe ▸ r3⟩

/-- A block more. -/
theorem TL.grow {ρ : Nat → Nat} {w w1 : World} {tv : Value} {bl : List Nat} {pl : List Plc} (h : TL w ρ tv bl pl) {D g cap : Nat} {wC : World} (fC : Fr (fun r => r = 102) ρ ρ w wC) (hD : w.heap.size ≤ D) (hDo : objAt wC D = some (.cells Z79 79 (0, 0)))
    (hg : wC.grownBy w1 tv.ownBlock) (hrow : w1.ownsRow 0 76 1 (.slice (some ⟨g, 0, none⟩) (bl.length + 1) cap) (bl.length + 1) (bl.map ptrB ++ [ptrB D])) (hgg : tv.ownBlock = some g ∨ g = wC.heap.size) (hlt : g < w1.heap.size) :
    Fr (fun r => r = 102) ρ (upd (upd ρ D (1000 + bl.length)) g 102) w w1 ∧ TL w1 (upd (upd ρ D (1000 + bl.length)) g 102) (.slice (some ⟨g, 0, none⟩) (bl.length + 1) cap) (bl ++ [D]) pl := by
  have hDlt : D < wC.heap.size := obj_lt hDo
  have gD : g ≠ D := by
    rcases hgg with e | e
    · have := h.tvlt g e; omega
    · omega
  have f1 : Fr (fun r => r = 102) ρ ρ w w1 := fC.grown hg (fun g e => h.role g e)
  have gold : ∀ b, b < w.heap.size → b = g → ρ b = 102 := fun b hb e => by
    subst e
    rcases hgg with e | e
    · exact h.role b e
    · have := fC.size; omega
  refine ⟨f1.rerole (fun b hb => ?_) (fun b hb => ?_), ⟨?_, ?_, fun i d hd => ?_, ?_⟩⟩
  · by_cases e : b = g
    · rw [e, upd_same]; exact (e ▸ gold b hb e).symm
    · rw [upd_other _ e, upd_other _ (by omega)]
  · have := hg.size
    rw [upd_other _ (by omega), upd_other _ (by omega)]
  · simpa using hrow
  · intro g' hg'
    have : g' = g := by simpa [Value.ownBlock] using hg'.symm
    rw [this, upd_same]
  · rcases Nat.lt_or_ge i bl.length with hi | hi
    · rw [List.getElem?_append_left hi] at hd
      obtain ⟨h1, A, hA, hs, ho⟩ := h.blk i d hd
      have hdl : d < w.heap.size := obj_lt hA
      have dg : d ≠ g := fun e => by have := gold d hdl e; omega
      refine ⟨by rw [upd_other _ dg, upd_other _ (by omega)]; exact h1, A, f1.obj hA (by rw [h1]; omega), hs, ho⟩
    · rw [List.getElem?_append_right hi] at hd
      have hi' : i = bl.length := by
        have := (List.getElem?_eq_some_iff.1 hd).1
        simp at this
        omega
      subst hi'
      simp at hd
      subst hd
      refine ⟨by rw [upd_other _ (Ne.symm gD), upd_same], Z79, ?_, Z79_size, fun r hr p hp => ?_⟩
      · refine (hg.block D hDlt (fun e => ?_)).trans hDo
        have := h.tvlt D e.symm
        omega
      · have := (List.getElem?_eq_some_iff.1 hp).1
        have := h.room
        omega
  · rw [show (bl ++ [D]).length = bl.length + 1 from by simp]
    exact Nat.le_trans h.room (Nat.mul_le_mul_right _ (Nat.le_succ _))

/-- What the rest of append leans on, behind the room's making. -/
theorem append_tail (X H : Nat) (XA : Array Value) (ρ : Nat → Nat) (tb nb cap : Nat) (bl : List Nat) (pl : List Plc) (p : Plc) (N : Int) (w : World) (hN : N = pl.length)
    (hXo : objAt w X = some (.cells XA 36 (0, 0))) (hX2 : XA[2]? = some (.slice (some ⟨tb, 0, none⟩) nb cap)) (hX3 : XA[3]? = some (.int .i64 N)) (hρ : ρ X = 100)
    (hT : TL w ρ (.slice (some ⟨tb, 0, none⟩) nb cap) bl pl) (hnbe : bl.length = nb) (hlt : pl.length < nb * 1024) (hH : objAt w H = some (.cells #[.int .i64 p.main, .int .i64 p.sub, .pointer (some ⟨p.h, 0, none⟩)] 59 (0, 0))) (hHr : ρ H = 0) :
    ∃ (d q r : Nat) (A : Array Value) (W : World), W = w.setCell ⟨X, 3, none⟩ (.int .i64 (N + 1)) ∧ Int.tdiv N 1024 = (q : Int) ∧ Int.tmod N 1024 = (r : Int) ∧ (q : Int) < (nb : Int) ∧ (r : Int) < 1024 ∧ A.size = 3072 ∧ X ≠ d ∧ tb ≠ d ∧
      W.cell? ⟨X, 2, none⟩ = some (.slice (some ⟨tb, 0, none⟩) nb cap) ∧ W.cell? ⟨tb, q, none⟩ = some (.pointer (some ⟨d, 0, none⟩)) ∧ objAt W d = some (.cells A 79 (0, 0)) ∧
      (∀ w1, Same W w1 → w1.cell? ⟨X, 3, none⟩ = some (.int .i64 (N + 1)) ∧ objAt w1 H = some (.cells #[.int .i64 p.main, .int .i64 p.sub, .pointer (some ⟨p.h, 0, none⟩)] 59 (0, 0))) ∧
      (∀ w1 w2, w1.grownBy w2 (some d) → Same W w1 → w2.cell? ⟨X, 3, none⟩ = some (.int .i64 (N + 1)) ∧ objAt w2 H = some (.cells #[.int .i64 p.main, .int .i64 p.sub, .pointer (some ⟨p.h, 0, none⟩)] 59 (0, 0))) ∧
      (∀ w1 w2, w1.grownBy w2 (some d) → Same W w1 → objAt w2 d = some (.cells (spl A (r * 3) [.int .i64 p.main, .int .i64 p.sub, .pointer (some ⟨p.h, 0, none⟩)]) 79 (0, 0)) →
        Fr (fun r => r = 100 ∨ 1000 ≤ r) ρ ρ w w2 ∧ objAt w2 X = some (.cells (XA.setIfInBounds 3 (.int .i64 (N + 1))) 36 (0, 0)) ∧ TL w2 ρ (.slice (some ⟨tb, 0, none⟩) nb cap) bl (pl ++ [p])) := by
  obtain ⟨n, hn⟩ : ∃ n, n = pl.length := ⟨_, rfl⟩
  obtain ⟨q, hq⟩ : ∃ q, q = n / 1024 := ⟨_, rfl⟩
  obtain ⟨r, hr⟩ : ∃ r, r = n % 1024 := ⟨_, rfl⟩
  have hNn : N = (n : Int) := by rw [hN, hn]
  have hqn : q < nb := by omega
  have hrn : r < 1024 := by omega
  have hqr : pl.length = q * 1024 + r := by omega
  have hdq : bl[q]? = some (bl[q]'(by omega)) := List.getElem?_eq_getElem (by omega)
  obtain ⟨d, hde⟩ : ∃ d, d = bl[q]'(by omega) := ⟨_, rfl⟩
  rw [← hde] at hdq
  obtain ⟨hd1, A, hA, hAs, _⟩ := hT.blk q d hdq
  have hXlt : X < w.heap.size := obj_lt hXo
  have htr : ρ tb = 102 := hT.role tb rfl
  have n1 : X ≠ d := fun e => by rw [e, hd1] at hρ; omega
  have n2 : tb ≠ d := fun e => by rw [e, hd1] at htr; omega
  have n4 : H ≠ d := fun e => by rw [e, hd1] at hHr; omega
  obtain ⟨W, hW⟩ : ∃ W : World, W = w.setCell ⟨X, 3, none⟩ (.int .i64 (N + 1)) := ⟨_, rfl⟩
  have FW : Fr (fun r => r = 100) ρ ρ w W := by rw [hW]; exact (Fr.refl _ ρ w).setCell (a := ⟨X, 3, none⟩) hρ _
  have o1 : objAt W X = some (.cells (XA.setIfInBounds 3 (.int .i64 (N + 1))) 36 (0, 0)) := by
    rw [hW]
    exact obj_set hXo 3 _
  have o2 : objAt W H = some (.cells #[.int .i64 p.main, .int .i64 p.sub, .pointer (some ⟨p.h, 0, none⟩)] 59 (0, 0)) := FW.obj hH (by rw [hHr]; omega)
  have F1 : W.cell? ⟨X, 2, none⟩ = some (.slice (some ⟨tb, 0, none⟩) nb cap) := by
    rw [obj_cell o1, Array.getElem?_setIfInBounds, if_neg (by omega)]
    exact hX2
  have F2 : W.cell? ⟨tb, q, none⟩ = some (.pointer (some ⟨d, 0, none⟩)) := FW.cell (row_cell (hnbe ▸ hT.row) (by rw [List.getElem?_map, hdq]; rfl)) (by rw [htr]; omega)
  have F3 : objAt W d = some (.cells A 79 (0, 0)) := FW.obj hA (by rw [hd1]; omega)
  have F4 : W.cell? ⟨X, 3, none⟩ = some (.int .i64 (N + 1)) := by
    rw [obj_cell o1, Array.getElem?_setIfInBounds, if_pos rfl, if_pos]
    exact (Array.getElem?_eq_some_iff.1 hX3).1
  have hTW : TL W ρ (.slice (some ⟨tb, 0, none⟩) nb cap) bl pl := hT.fr FW (by omega) (fun i => by omega)
  have hWX : X < W.heap.size := obj_lt o1
  have hWH : H < W.heap.size := obj_lt o2
  refine ⟨d, q, r, A, W, hW, ?_, ?_, by omega, by omega, hAs, n1, n2, F1, F2, F3, fun w1 h => ⟨(h.cell _).trans F4, (h.obj _).trans o2⟩,
    fun w1 w2 hg hs => ⟨((hs.grown hg).cell_far ⟨X, 3, none⟩ hWX (fun e => n1 (Option.some.inj e))).trans F4, ((hs.grown hg).block H hWH (fun e => n4 (Option.some.inj e))).trans o2⟩,
    fun w1 w2 hg hs ho => ?_⟩
  · rw [hNn, Int.tdiv_eq_ediv_of_nonneg (by omega)]; omega
  · rw [hNn, Int.tmod_eq_emod_of_nonneg (by omega)]; omega
  · have hg' : W.grownBy w2 (some d) := hs.grown hg
    exact ⟨(FW.mono (fun r h => Or.inl h)).trans (grown_fr hg' _ (fun g e => by cases e; right; rw [hd1]; omega)), (hg'.block X hWX (fun e => n1 (Option.some.inj e))).trans o1, hTW.push p hdq F3 hqr hrn hg' ho⟩

set_option maxRecDepth 100000 in
set_option maxHeartbeats 2000000 in
/-- timeline.append where there is no room. -/
theorem append_grow (X : Nat) (XA : Array Value) (ρ : Nat → Nat) (tv : Value) (bl : List Nat) (pl : List Plc) (p : Plc) (n : Nat) (w : World) (hn : n = pl.length)
    (hXo : objAt w X = some (.cells XA 36 (0, 0))) (hX2 : XA[2]? = some tv) (hX3 : XA[3]? = some (.int .i64 n)) (hρ : ρ X = 100) (hT : TL w ρ tv bl pl) (htidy : ∀ b, w.heap.size ≤ b → ρ b = 0) (hlt : pl.length = bl.length * 1024) (hbl : bl.length < 1048576) :
    Calls Yba.prog 6 #[.pointer (some ⟨X, 2, none⟩), .agg #[.int .i64 p.main, .int .i64 p.sub, .pointer (some ⟨p.h, 0, none⟩)]] w fun e w' =>
      e = .returned (.tuple #[]) ∧ ∃ ρ' tv' D, Fr (fun r => r = 100 ∨ r = 102 ∨ 1000 ≤ r) ρ ρ' w w' ∧ objAt w' X = some (.cells ((XA.setIfInBounds 2 tv').setIfInBounds 3 (.int .i64 ((n : Int) + 1))) 36 (0, 0)) ∧ TL w' ρ' tv' (bl ++ [D]) (pl ++ [p]) := by
  obtain ⟨i0, hi, hz0, hz1, hz2⟩ := info_parts info76
  obtain ⟨ao, cap, rfl⟩ := form_any hT.row
  obtain ⟨nb, hnbe⟩ : ∃ nb, bl.length = nb := ⟨_, rfl⟩
  rw [hnbe] at hX2 hlt hbl
  have hXlt : X < w.heap.size := obj_lt hXo
  have c2 : w.cell? ⟨X, 2, none⟩ = some (.slice ao nb cap) := (obj_cell hXo 2).trans hX2
  have f2 : w.frozen? ⟨X, 2, none⟩ = false := obj_frozen hXo 2
  obtain ⟨N, hN⟩ : ∃ N : Int, (n : Int) = N := ⟨_, rfl⟩
  have c3 : w.cell? ⟨X, 3, none⟩ = some (.int .i64 N) := by rw [← hN]; exact (obj_cell hXo 3).trans hX3
  have f3 : w.frozen? ⟨X, 3, none⟩ = false := obj_frozen hXo 3
  have j1 : N = (nb : Int) * 1024 := by omega
  have hrowC : ∀ o1 o2 o3 : Obj, Hid ((((w.alloc o1).alloc o2).alloc o3).ownsRow 0 76 1 (.slice ao nb cap) nb (bl.map ptrB)) := fun o1 o2 o3 => by
    have := hT.row
    rw [hnbe] at this
    exact ((this.alloc _).alloc _).alloc _
  replace hN := hid hN
  replace hn := hid hn
  replace hnbe := hid hnbe
  replace hXo := hid hXo
  replace hρ := hid hρ
  replace hT := hid hT
  replace hX2 := hid hX2
  replace hX3 := hid hX3
  replace htidy := hid htidy
  replace hlt := hid hlt
  have q1 : nb + 1 ≤ maxLen := by unfold maxLen; omega
  have q2 : (nb + 1) * 8 ≤ 140737488355328 := by omega
  obtain ⟨_, j3⟩ := wr64 ((nb : Int) * 1024) (by omega) (by omega)
  go_enter Yba.func6, Yba.ntmps6
  go_wp2
  go_quiet (fail)
  go_wp2_with (at_builtin; refine wpList_append_lies _ (by rfl) (.tmp 19) (.tmp 21) 28 (by rfl) 0 76 i0 (.pointer none) 1 8 Yba.underlying28 hi hz0 hz1 hz2 rfl (by decide) (.slice ao nb cap) nb (bl.map ptrB) (by rfl) ?own ⟨w.heap.size + 1 + 1, 0, none⟩ 1 1 [ptrB (w.heap.size + 1)] (by rfl) (by rfl) ?news ?one (by decide) q1 q2 (Nat.zero_le _) (w.heap.size + 1 + 1 + 1) ?hH ?_)
  case own => exact hrowC _ _ _
  case news => exact World.news_of_block (heapN _ _ _ (by simp))
  case one => intro u hu; simp at hu; subst hu; rfl
  case hH => simp
  intro g cap1 w1 hown hgr hat hlt1
  obtain ⟨wC, hwC⟩ : ∃ wC, wC = ((w.alloc (.cells #[.int .i64 p.main, .int .i64 p.sub, .pointer (some ⟨p.h, 0, none⟩)] 59)).alloc (.cells Z79 79)).alloc (.cells #[.pointer (some ⟨w.heap.size + 1, 0, none⟩)] 76) := ⟨_, rfl⟩
  rw [← hwC] at hgr
  have hgr' : wC.grownBy w1 (Value.slice ao nb cap).ownBlock := hgr.same ⟨rfl, rfl, rfl, rfl⟩
  clear hgr
  have hsz : wC.heap.size = w.heap.size + 1 + 1 + 1 := by rw [hwC]; simp
  have fC : Fr (fun r => r = 102) ρ ρ w wC := by rw [hwC]; exact (((Fr.refl _ ρ w).alloc _).alloc _).alloc _
  have oD : objAt wC (w.heap.size + 1) = some (.cells Z79 79 (0, 0)) := by rw [hwC]; exact (heapP _ _ _ (by simp)).trans (heapN _ _ _ (by simp))
  have oP : objAt wC w.heap.size = some (.cells #[.int .i64 p.main, .int .i64 p.sub, .pointer (some ⟨p.h, 0, none⟩)] 59 (0, 0)) := by
    rw [hwC]; exact (heapP _ _ _ (by simp <;> omega)).trans ((heapP _ _ _ (by simp)).trans (heapN _ _ _ rfl))
  have hT' : TL w ρ (.slice ao nb cap) bl pl := by
    have h : TL w ρ (.slice ao bl.length cap) bl pl := hT
    rw [show bl.length = nb from hnbe] at h
    exact h
  have hown' : w1.ownsRow 0 76 1 (.slice (some ⟨g, 0, none⟩) (bl.length + 1) cap1) (bl.length + 1) (bl.map ptrB ++ [ptrB (w.heap.size + 1)]) := by
    rw [show bl.length = nb from hnbe]; exact hown
  obtain ⟨F1, T1⟩ := hT'.grow fC (Nat.le_succ _) oD hgr' hown' (hat.imp id (fun e => by rw [e, hsz])) hlt1
  rw [show bl.length = nb from hnbe] at F1 T1
  have hρ1 : upd (upd ρ (w.heap.size + 1) (1000 + nb)) g 102 X = 100 := (F1.role X hXlt).trans hρ
  have o1 : objAt w1 X = some (.cells XA 36 (0, 0)) := F1.obj hXo (by rw [show ρ X = 100 from hρ]; omega)
  have d2 : w1.cell? ⟨X, 2, none⟩ = some (.slice ao nb cap) := (obj_cell o1 2).trans hX2
  have e2 : w1.frozen? ⟨X, 2, none⟩ = false := obj_frozen o1 2
  have d3 : w1.cell? ⟨X, 3, none⟩ = some (.int .i64 N) := by rw [← show (n : Int) = N from hN]; exact (obj_cell o1 3).trans hX3
  have e3 : w1.frozen? ⟨X, 3, none⟩ = false := obj_frozen o1 3
  obtain ⟨w2, hw2⟩ : ∃ w2, w2 = w1.setCell ⟨X, 2, none⟩ (.slice (some ⟨g, 0, none⟩) (nb + 1) cap1) := ⟨_, rfl⟩
  have F2 : Fr (fun r => r = 100) (upd (upd ρ (w.heap.size + 1) (1000 + nb)) g 102) (upd (upd ρ (w.heap.size + 1) (1000 + nb)) g 102) w1 w2 := by
    rw [hw2]; exact (Fr.refl _ _ w1).setCell (a := ⟨X, 2, none⟩) hρ1 _
  have o2 : objAt w2 X = some (.cells (XA.setIfInBounds 2 (.slice (some ⟨g, 0, none⟩) (nb + 1) cap1)) 36 (0, 0)) := by rw [hw2]; exact obj_set o1 2 _
  have hne1 : w.heap.size ≠ g := fun e => by
    rcases hat with q | q
    · have := hT'.tvlt g q; omega
    · omega
  have hPr : upd (upd ρ (w.heap.size + 1) (1000 + nb)) g 102 w.heap.size = 0 := by
    rw [upd_other _ hne1, upd_other _ (by omega)]; exact htidy _ (Nat.le_refl _)
  have oP1 : objAt w1 w.heap.size = some (.cells #[.int .i64 p.main, .int .i64 p.sub, .pointer (some ⟨p.h, 0, none⟩)] 59 (0, 0)) :=
    (hgr'.block w.heap.size (by omega) (fun e => by have := hT'.tvlt _ e.symm; omega)).trans oP
  have oP2 : objAt w2 w.heap.size = some (.cells #[.int .i64 p.main, .int .i64 p.sub, .pointer (some ⟨p.h, 0, none⟩)] 59 (0, 0)) := F2.obj oP1 (by rw [hPr]; omega)
  have x2 : (XA.setIfInBounds 2 (.slice (some ⟨g, 0, none⟩) (nb + 1) cap1))[2]? = some (.slice (some ⟨g, 0, none⟩) (nb + 1) cap1) := by
    rw [Array.getElem?_setIfInBounds, if_pos rfl, if_pos (Array.getElem?_eq_some_iff.1 hX2).1]
  have x3 : (XA.setIfInBounds 2 (.slice (some ⟨g, 0, none⟩) (nb + 1) cap1))[3]? = some (.int .i64 N) := by
    rw [Array.getElem?_setIfInBounds, if_neg (by omega), ← show (n : Int) = N from hN]; exact hX3
  obtain ⟨d, q, r, A, W, hW, tq, tr, hqn, hrn, hAs, n1, n2, G1, G2, G3, K0, K1, fin⟩ := append_tail X w.heap.size _ _ g (nb + 1) cap1 _ pl p N w2 (by rw [← show (n : Int) = N from hN, show n = pl.length from hn]) o2 x2 x3 hρ1
    (T1.fr F2 (by omega) (fun i => by omega)) (by simp [show bl.length = nb from hnbe]) (by have : pl.length = nb * 1024 := hlt; omega) oP2 hPr
  have fin' : ∀ wa wb, wa.grownBy wb (some d) → Same W wa → objAt wb d = some (.cells (spl A (r * 3) [.int .i64 p.main, .int .i64 p.sub, .pointer (some ⟨p.h, 0, none⟩)]) 79 (0, 0)) →
      ∃ ρ' tv' D, Fr (fun r => r = 100 ∨ r = 102 ∨ 1000 ≤ r) ρ ρ' w wb ∧ objAt wb X = some (.cells ((XA.setIfInBounds 2 tv').setIfInBounds 3 (.int .i64 (N + 1))) 36 (0, 0)) ∧ TL wb ρ' tv' (bl ++ [D]) (pl ++ [p]) := fun wa wb h1 h2 h3 => by
    obtain ⟨r1, r2, r3⟩ := fin wa wb h1 h2 h3
    exact ⟨_, _, _, (F1.mono (fun r h => Or.inr (Or.inl h))).trans ((F2.mono (fun r h => Or.inl h)).trans (r1.mono (fun r h => h.elim Or.inl (fun h => Or.inr (Or.inr h))))), r2, r3⟩
  have hWe : W = (w1.setCell ⟨X, 2, none⟩ (.slice (some ⟨g, 0, none⟩) (nb + 1) cap1)).setCell ⟨X, 3, none⟩ (.int .i64 (N + 1)) := by rw [hW, hw2]
  clear hW hw2 F2 o2 hPr oP1 oP2 x2 x3 fin F1 T1 hρ1 o1 hown' hT' oP oD fC hgr' hsz hwC wC hown hat hlt1 htidy
  obtain ⟨⟨_, j5⟩, _, j7⟩ := And.intro (wr64 (N + 1) (by omega) (by omega)) (wr64 N (by omega) (by omega))
  replace hWe := hid hWe
  replace G1 := hid G1
  replace G2 := hid G2
  replace G3 := hid G3
  replace K0 := hid K0
  replace K1 := hid K1
  replace fin' := hid fin'
  clear j1
  go_wp2
  rw [← hWe]
  go_region_held3 (fun w' => w'.cell? ⟨X, 3, none⟩ = some (.int .i64 (N + 1)) ∧ objAt w' w.heap.size = some (.cells #[.int .i64 p.main, .int .i64 p.sub, .pointer (some ⟨p.h, 0, none⟩)] 59 (0, 0)))
    (first | exact K1 _ _ hg ⟨rfl, rfl, rfl, rfl⟩ | exact K0 _ ⟨rfl, rfl, rfl, rfl⟩)
    (first | (go_at_call 10; refine (set_any X g (nb + 1) cap1 d q r N p.main p.sub _ A _ ?_ tq tr hqn hrn hbl ?_ ?_ hAs n1 n2).mono ?_; exact G1; exact G2; exact G3; rintro e wb ⟨rfl, hg, ho⟩))
  go_wp2
  refine bodyPost_end (results_none rfl _ _ _) rfl ?_
  have fin := fin' _ _ hg ⟨rfl, rfl, rfl, rfl⟩ ho
  rw [← show (n : Int) = N from hN] at fin
  exact ⟨rfl, fin⟩
end Go.Proofs.Ybulkdljs
