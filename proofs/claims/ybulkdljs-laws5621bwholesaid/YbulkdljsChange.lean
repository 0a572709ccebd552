/-
  The walk over (*history).change.
-/
import Derived.Test.YbulkdljsLeaf
import Derived.Deep.RegionHeldLaw
namespace Go.Proofs.Ybulkdljs
open Go.RowKit
attribute [local go_sem ↓] ld56_fold st56_fold ld54_fold st54_fold ld70_fold st70_fold
attribute [local go_sem] ld56_whole st56_whole ld54_whole st54_whole ld70_whole st70_whole whole_ok wstore_ok heapN heapP heapD setsN setsP setsD heapDN allocDN cellDN setsDN spl size_sets Value.oneCell'

/-- A value's place as a value. -/
abbrev valA (a z u : Int) : Array Value :=
  #[.int .i64 a, .int .u32 z, .int .u32 u,
    .int .u8 0, .int .u8 0, .int .u8 0, .int .u8 0, .int .u8 0, .int .u8 0, .int .u8 0, .int .u8 0, .int .u8 0, .int .u8 0, .int .u8 0, .int .u8 0, .int .u8 0, .int .u8 0, .int .u8 0, .int .u8 0]

/-- An Op as a value: its kind, key and lease; the rest is zero. -/
abbrev opA (kind lease : Int) (key : Value) : Array Value :=
  #[.int .u8 kind, .bool false, key, .slice none 0 0, .slice none 0 0, .int .i64 lease, .pointer none, .int .i64 0, .bool false, .bool false, .bool false, .int .u8 0, .pointer none]

theorem zero70 (w : World) : (zeroValue 70).run Yba.prog w = .ok (.agg (opA 0 0 (.slice none 0 0))) w := by kernel_rfl

theorem res18 (w : World) (g : Nat) (t : TypeId) (cs : Array Value) (tmps : Array Value) (hp : tmps.getD 8 undef = .pointer (some ⟨g, 0, none⟩)) (hg : objAt w g = some (.cells cs t (0, 0))) (hs : cs.size = 24) :
    (results Yba.f18 tmps).run Yba.prog w = .ok (.agg cs) w :=
  results_cell_row (ty := 56) rfl tmps w g t cs _ _ hp hg Yba.underlying56 rfl (by rw [hs]; exact info56)

set_option maxRecDepth 100000 in
set_option maxHeartbeats 1000000 in
/-- A delete. -/
theorem change_del (hb : Nat) (lease : Int) (kv : Value) (m s a z u : Int) (w : World) :
    Calls Yba.prog 18 #[.pointer (some ⟨hb, 0, none⟩), .agg (opA 2 lease kv), .agg #[.int .i64 m, .int .i64 s], .agg (valA a z u)] w fun e w' =>
      e = .returned (.agg (chgA m s 0 0 0 0 0 0)) ∧ Below w.heap.size w w' := by
  go_enter Yba.func18, Yba.ntmps18
  go_wp2
  refine bodyPost_ret_by (res18 _ _ _ _ _ (by rfl) (heapP _ _ _ (by simp) |>.trans (heapN _ _ _ (by simp))) (by rfl)) rfl ⟨rfl, ?_⟩
  repeat first | exact Below.refl _ _ | refine Below.alloc ?_ (by simp <;> omega) _ | refine Below.drew ?_

set_option maxRecDepth 100000 in
set_option maxHeartbeats 2000000 in
/-- A put at a key without a change. -/
theorem change_none (hb : Nat) (lease : Int) (kv : Value) (m s a z u : Int) (ao : Option Addr) (cap : Nat) (w : World) (h : w.cell? ⟨hb, 1, none⟩ = some (.slice ao 0 cap)) :
    Calls Yba.prog 18 #[.pointer (some ⟨hb, 0, none⟩), .agg (opA 1 lease kv), .agg #[.int .i64 m, .int .i64 s], .agg (valA a z u)] w fun e w' =>
      e = .returned (.agg (chgA m s m 1 a z u lease)) ∧ Below w.heap.size w w' := by
  have hlt : hb < w.heap.size := World.block_lt_of_cell? _ _ h
  go_enter Yba.func18, Yba.ntmps18
  go_wp2_with (first | (go_at_call 20; refine (live_none hb ao cap _ ?_).mono ?_; (rw [Below.cell (B := w.heap.size) (w := w) (by repeat first | exact Below.refl _ _ | refine Below.alloc ?_ (by simp <;> omega) _ | refine belowDN ?_ _) hlt]; exact h); rintro e w' ⟨rfl, nd, rfl⟩))
  go_region
  all_goals go_wp2
  all_goals refine bodyPost_ret_by (res18 _ _ _ _ _ (by rfl) (heapP _ _ _ (by simp) |>.trans (heapN _ _ _ (by simp))) (by rfl)) rfl ⟨rfl, ?_⟩
  all_goals repeat first | exact Below.refl _ _ | refine Below.alloc ?_ (by simp <;> omega) _ | refine belowDN ?_ _ | refine Below.drew ?_

theorem rangeAt_below {w W : World} (hb : Below w.heap.size w W) {b o : Nat} {cs : List Value} (h : w.rangeAt b o cs) : W.rangeAt b o cs := fun j v hv => by
  have := h j v hv
  rw [hb.cell (World.block_lt_of_cell? _ _ this)]
  exact this

set_option maxRecDepth 100000 in
set_option maxHeartbeats 2000000 in
/-- A put at a key whose last change is a delete. -/
theorem change_dead (hb g n cap : Nat) (lease : Int) (kv : Value) (m s a z u : Int) (c : Chg) (w : World) (hn : n ≤ 1048576) (h : w.cell? ⟨hb, 1, none⟩ = some (.slice (some ⟨g, 0, none⟩) (n + 1) cap))
    (hl : w.rangeAt g (n * 24) c.cells) (hv : (c.version == 0) = true) :
    Calls Yba.prog 18 #[.pointer (some ⟨hb, 0, none⟩), .agg (opA 1 lease kv), .agg #[.int .i64 m, .int .i64 s], .agg (valA a z u)] w fun e w' =>
      e = .returned (.agg (chgA m s m 1 a z u lease)) ∧ Below w.heap.size w w' := by
  have hlt : hb < w.heap.size := World.block_lt_of_cell? _ _ h
  have h' := hid h
  have hl' := hid hl
  clear h hl
  go_enter Yba.func18, Yba.ntmps18
  go_wp2_with (first | (go_at_call 20; refine (live_some hb g n cap c _ hn ?_ ?_).mono ?_; (rw [Below.cell (B := w.heap.size) (w := w) (by repeat first | exact Below.refl _ _ | refine Below.alloc ?_ (by simp <;> omega) _ | refine belowDN ?_ _ | refine Below.drew ?_) hlt]; exact h'); (exact rangeAt_below (by repeat first | exact Below.refl _ _ | refine Below.alloc ?_ (by simp <;> omega) _ | refine belowDN ?_ _ | refine Below.drew ?_) hl'); rintro e w' ⟨rfl, rfl⟩; rw [hv]))
  go_region
  all_goals go_wp2
  all_goals refine bodyPost_ret_by (res18 _ _ _ _ _ (by rfl) ((heapD _ _).trans ((heapP _ _ _ (by simp)).trans ((heapP _ _ _ (by simp)).trans (heapN _ _ _ (by simp))))) (by rfl)) rfl ⟨rfl, ?_⟩
  all_goals repeat first | exact Below.refl _ _ | refine Below.alloc ?_ (by simp <;> omega) _ | refine belowDN ?_ _ | refine Below.drew ?_

set_option maxRecDepth 100000 in
set_option maxHeartbeats 2000000 in
/-- A put at a key that is there. -/
theorem change_live (hb g n cap : Nat) (lease : Int) (kv : Value) (m s a z u : Int) (c : Chg) (w : World) (hn : n ≤ 1048576) (h : w.cell? ⟨hb, 1, none⟩ = some (.slice (some ⟨g, 0, none⟩) (n + 1) cap))
    (hl : w.rangeAt g (n * 24) c.cells) (hv : (c.version == 0) = false) :
    Calls Yba.prog 18 #[.pointer (some ⟨hb, 0, none⟩), .agg (opA 1 lease kv), .agg #[.int .i64 m, .int .i64 s], .agg (valA a z u)] w fun e w' =>
      e = .returned (.agg (chgA m s c.create (wrap64 (c.version + 1)) a z u lease)) ∧ Below w.heap.size w w' := by
  have hlt : hb < w.heap.size := World.block_lt_of_cell? _ _ h
  have h' := hid h
  have hl' := hid hl
  clear h hl
  obtain ⟨cs, hcs⟩ : ∃ cs, cs = c.cells := ⟨_, rfl⟩
  have hl'' : Hid (w.rangeAt g (n * 24) cs) := by rw [hcs]; exact hl'
  have hld : ∀ w' : World, w'.rangeAt g (n * 24) cs → (ldT 56 (.pointer (some ⟨g, n * 24, none⟩))).run Yba.prog w' = .ok (.agg (chgA c.main c.sub c.create c.version c.addr c.size c.sum c.lease)) w' := fun w' h => by
    have := ld56_mid (hcs ▸ h) (Chg.cells_length c)
    exact this
  clear hcs
  have i1 : (0 : Int) < ((n + 1 : Nat) : Int) := by omega
  have i3 : (0 : Int) ≤ (n : Int) := by omega
  have i4 : IntKind.i64.wrap (n : Int) = (n : Int) := IntWalk.i64_in _ (by omega)
  have i5 : wrap64 (n : Int) = (n : Int) := IntWalk.wrap64_in _ (by omega)
  have i6 : (n : Int) < (n : Int) + 1 := by omega
  go_enter Yba.func18, Yba.ntmps18
  go_wp2_with (first | (go_at_call 20; refine (live_some hb g n cap c _ hn ?_ ?_).mono ?_; (rw [Below.cell (B := w.heap.size) (w := w) (by repeat first | exact Below.refl _ _ | refine Below.alloc ?_ (by simp <;> omega) _ | refine belowDN ?_ _ | refine Below.drew ?_) hlt]; exact h'); (exact rangeAt_below (by repeat first | exact Below.refl _ _ | refine Below.alloc ?_ (by simp <;> omega) _ | refine belowDN ?_ _ | refine Below.drew ?_) hl'); rintro e w' ⟨rfl, rfl⟩; rw [hv]))
  go_region_held3 (fun w' => w'.cell? ⟨hb, 1, none⟩ = some (.slice (some ⟨g, 0, none⟩) (n + 1) cap) ∧ w'.rangeAt g (n * 24) cs)
    (exact ⟨(Below.cell (B := w.heap.size) (w := w) (by repeat first | exact Below.refl _ _ | refine Below.alloc ?_ (by simp <;> omega) _ | refine belowDN ?_ _ | refine Below.drew ?_) hlt).trans h', rangeAt_below (by repeat first | exact Below.refl _ _ | refine Below.alloc ?_ (by simp <;> omega) _ | refine belowDN ?_ _ | refine Below.drew ?_) hl''⟩) (fail)
  go_wp2
  go_region
  all_goals go_wp2
  go_region
  all_goals go_wp2
  all_goals refine bodyPost_ret_by (res18 _ _ _ _ _ (by rfl) ((heapD _ _).trans ((heapP _ _ _ (by simp)).trans ((heapP _ _ _ (by simp)).trans ((heapP _ _ _ (by simp)).trans (heapN _ _ _ (by simp)))))) (by rfl)) rfl ⟨rfl, ?_⟩
  all_goals repeat first | exact Below.refl _ _ | refine Below.alloc ?_ (by simp <;> omega) _ | refine belowDN ?_ _ | refine Below.drew ?_

/-- THE PLAIN MODEL: the change that an operation makes to a key whose changes are l. -/
def nextC (l : List Chg) (del : Bool) (m s lease a z u : Int) : Chg :=
  if del then ⟨m, s, 0, 0, 0, 0, 0, 0⟩
  else match l.getLast? with
    | none => ⟨m, s, m, 1, a, z, u, lease⟩
    | some c => if c.version == 0 then ⟨m, s, m, 1, a, z, u, lease⟩ else ⟨m, s, c.create, wrap64 (c.version + 1), a, z, u, lease⟩

theorem row_last {w : World} {base : Nat} {v : Value} {l : List Chg} {c : Chg} (h : w.ownsRow base 56 24 v (l ++ [c]).length (chgs (l ++ [c]))) :
    ∃ g cap, v = .slice (some ⟨g, 0, none⟩) (l.length + 1) cap ∧ w.rangeAt g (l.length * 24) c.cells := by
  rcases h.2 with ⟨_, h2⟩ | ⟨g, cap, cur, rfl, hb, hg, h1, h2, h3, h4⟩
  · simp at h2
  · refine ⟨g, cap, by simp, fun j u hu => ?_⟩
    have hj : j < 24 := by have := (List.getElem?_eq_some_iff.1 hu).1; rwa [Chg.cells_length] at this
    rw [obj_cell hg]
    have e : (chgs (l ++ [c]))[l.length * 24 + j]? = some u := by
      unfold chgs
      rw [flat_at Chg.cells 24 Chg.cells_length (l ++ [c]) l.length j c (by simp) hj]
      exact hu
    rw [← h4, List.getElem?_take] at e
    split at e
    · simpa using e
    · cases e

/-- THE CONTRACT. -/
theorem change_any (hb base : Nat) (del : Bool) (lease : Int) (kv : Value) (m s a z u : Int) (v : Value) (l : List Chg) (w : World) (hn : l.length ≤ 1048576)
    (h : w.cell? ⟨hb, 1, none⟩ = some v) (ho : w.ownsRow base 56 24 v l.length (chgs l)) :
    Calls Yba.prog 18 #[.pointer (some ⟨hb, 0, none⟩), .agg (opA (if del then 2 else 1) lease kv), .agg #[.int .i64 m, .int .i64 s], .agg (valA a z u)] w fun e w' =>
      e = .returned (.agg (nextC l del m s lease a z u).cells.toArray) ∧ Below w.heap.size w w' := by
  cases del with
  | true => exact change_del hb lease kv m s a z u w
  | false =>
    rcases List.eq_nil_or_concat l with rfl | ⟨l', c, hl⟩
    · rcases ho.2 with ⟨rfl, _⟩ | ⟨g, cap, cur, rfl, _⟩
      · exact change_none hb lease kv m s a z u _ _ w h
      · exact change_none hb lease kv m s a z u _ _ w h
    · have hl : l = l' ++ [c] := by simpa using hl
      subst hl
      obtain ⟨g, cap, rfl, hr⟩ := row_last ho
      simp only [List.length_append, List.length_cons, List.length_nil] at hn
      by_cases hv : (c.version == 0) = true
      · refine (change_dead hb g l'.length cap lease kv m s a z u c w (by omega) h hr hv).mono fun e w' q => ⟨?_, q.2⟩
        rw [q.1]
        simp only [nextC, List.getLast?_append, List.getLast?_singleton, Option.some_or, hv, if_true, Bool.false_eq_true, if_false]
        rfl
      · have hv' : (c.version == 0) = false := by simpa using hv
        refine (change_live hb g l'.length cap lease kv m s a z u c w (by omega) h hr hv').mono fun e w' q => ⟨?_, q.2⟩
        rw [q.1]
        simp only [nextC, List.getLast?_append, List.getLast?_singleton, Option.some_or, hv', if_false, Bool.false_eq_true]
        rfl
end Go.Proofs.Ybulkdljs
