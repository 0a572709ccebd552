/-
  Structs of many cells (a change: 24, a value's place: 19, an Op: 13) TAKEN WHOLE: their loads and stores under names of their own, and what they do at an object that is known whole.
-/
import Derived.Test.YbulkdljsBase
import Derived.Deep.Draws
import Derived.OwnWalk
namespace Go.Proofs.Ybulkdljs
open Go.RowKit

/-- What a stretch of stores leaves of an object's cells. -/
def spl (A : Array Value) (o : Nat) : List Value → Array Value
  | [] => A
  | v :: vs => spl (A.setIfInBounds o v) (o + 1) vs

theorem obj_sets {b : Nat} {t : TypeId} {fr : Nat × Nat} : ∀ (vs : List Value) (A : Array Value) (o : Nat) (w : World), w.heap[b]? = some (.cells A t fr) → (w.setCells b o vs).heap[b]? = some (.cells (spl A o vs) t fr)
  | [], _, _, _, h => h
  | v :: vs, A, o, w, h => by
    simp only [World.setCells, spl]
    exact obj_sets vs _ (o + 1) _ (obj_set h o v)

theorem spl_size : ∀ (vs : List Value) (A : Array Value) (o : Nat), (spl A o vs).size = A.size
  | [], _, _ => rfl
  | v :: vs, A, o => by rw [spl, spl_size vs]; simp

theorem spl_get : ∀ (vs : List Value) (A : Array Value) (o i : Nat), o + vs.length ≤ A.size → (spl A o vs)[i]? = if o ≤ i ∧ i < o + vs.length then vs[i - o]? else A[i]?
  | [], A, o, i, _ => by rw [spl, if_neg (by simp)]
  | v :: vs, A, o, i, h => by
    simp only [List.length_cons] at h
    rw [spl, spl_get vs _ _ _ (by simp; omega)]
    by_cases h1 : i = o
    · subst h1
      rw [if_neg (by omega), if_pos (by simp)]
      simp [Array.getElem?_setIfInBounds]
      omega
    · by_cases h2 : o + 1 ≤ i ∧ i < o + 1 + vs.length
      · rw [if_pos h2, if_pos (by simp; omega)]
        rw [show i - o = (i - (o + 1)) + 1 by omega]
        rfl
      · rw [if_neg h2, if_neg (by simp; omega)]
        simp [Ne.symm h1]

theorem spl_all {A : Array Value} {vs : List Value} (h : vs.length = A.size) : spl A 0 vs = vs.toArray := by
  apply Array.ext_getElem?
  intro i
  rw [spl_get vs A 0 i (by omega)]
  split
  · simp
  · rename_i q
    rw [Array.getElem?_eq_none (by omega), Array.getElem?_eq_none (by simp; omega)]

theorem obj_there {w : World} {b : Nat} {A : Array Value} {t : TypeId} (h : w.heap[b]? = some (.cells A t (0, 0))) (o n : Nat) (hn : o + n ≤ A.size) : w.there b o n := fun j hj => by
  rw [obj_cell h, obj_frozen h]
  simp
  omega

theorem obj_range {w : World} {b : Nat} {A : Array Value} {t : TypeId} {fr : Nat × Nat} (h : w.heap[b]? = some (.cells A t fr)) : w.rangeAt b 0 A.toList := fun j v hv => by
  rw [obj_cell h]
  simpa using hv

/-- The load and the store of a struct, under names of their own. -/
noncomputable def ldT (T : TypeId) (v : Value) : Sem Value := Instr.loadAt T v
noncomputable def stT (T : TypeId) (p v : Value) : Sem Unit := Instr.storeAt T p v
theorem ld56_fold (v : Value) : Instr.loadAt 56 v = ldT 56 v := rfl
theorem st56_fold (p v : Value) : Instr.storeAt 56 p v = stT 56 p v := rfl
theorem ld54_fold (v : Value) : Instr.loadAt 54 v = ldT 54 v := rfl
theorem st54_fold (p v : Value) : Instr.storeAt 54 p v = stT 54 p v := rfl
theorem ld70_fold (v : Value) : Instr.loadAt 70 v = ldT 70 v := rfl
theorem st70_fold (p v : Value) : Instr.storeAt 70 p v = stT 70 p v := rfl

theorem ld59_fold (v : Value) : Instr.loadAt 59 v = ldT 59 v := rfl
theorem st59_fold (p v : Value) : Instr.storeAt 59 p v = stT 59 p v := rfl

theorem info59 : (Yba.prog.info? 59).map (·.size) = some 3 := by kernel_rfl
theorem info56 : (Yba.prog.info? 56).map (·.size) = some 24 := by kernel_rfl
theorem info54 : (Yba.prog.info? 54).map (·.size) = some 19 := by kernel_rfl
theorem info70 : (Yba.prog.info? 70).map (·.size) = some 13 := by kernel_rfl

/-- The object at a block, by a name that the walk's simp leaves alone. -/
def objAt (w : World) (b : Nat) : Option Obj := w.heap[b]?

/-- What such a load answers at an object. -/
noncomputable def whole (T N b : Nat) (o : Option Obj) (w : World) : Result Value :=
  match o with
  | some (.cells A _ _) => if A.size = N then .ok (.agg A) w else (Instr.loadAt T (.pointer (some ⟨b, 0, none⟩))).run Yba.prog w
  | _ => (Instr.loadAt T (.pointer (some ⟨b, 0, none⟩))).run Yba.prog w
theorem whole_ok (T N b : Nat) (A : Array Value) (t : TypeId) (fr : Nat × Nat) (w : World) (h : A.size = N) : whole T N b (some (.cells A t fr)) w = .ok (.agg A) w := by
  unfold whole; exact if_pos h

/-- What such a store at offset o does to an object. -/
noncomputable def wstore (T N b o : Nat) (q : Option Obj) (B : Array Value) (w : World) : Result Unit :=
  match q with
  | some (.cells A _ fr) => if o + N ≤ A.size ∧ B.size = N ∧ B.all (·.oneCell') = true ∧ fr = (0, 0) then .ok () (w.setCells b o B.toList) else (Instr.storeAt T (.pointer (some ⟨b, o, none⟩)) (.agg B)).run Yba.prog w
  | _ => (Instr.storeAt T (.pointer (some ⟨b, o, none⟩)) (.agg B)).run Yba.prog w
theorem wstore_ok (T N b o : Nat) (A B : Array Value) (t : TypeId) (w : World) (h : o + N ≤ A.size) (h2 : B.size = N) (h3 : B.all (·.oneCell') = true) : wstore T N b o (some (.cells A t (0, 0))) B w = .ok () (w.setCells b o B.toList) := by
  unfold wstore; exact if_pos ⟨h, h2, h3, rfl⟩

theorem ldT_whole {T N : Nat} {d : TypeDesc} (hu : Yba.prog.underlying T = some d) (hd : d.isRow = true) (hi : (Yba.prog.info? T).map (·.size) = some N) (b : Nat) (w : World) :
    (ldT T (.pointer (some ⟨b, 0, none⟩))).run Yba.prog w = whole T N b (objAt w b) w := by
  unfold objAt
  unfold whole
  split
  · rename_i A t fr h
    split
    · rename_i hs
      have h1 : w.rangeAt b 0 A.toList := obj_range h
      have := run_loadAt_mid w b 0 T A.toList d h1 hu hd (by rw [Array.length_toList, hs]; exact hi)
      simp only [Array.toArray_toList] at this
      exact this
    · rfl
  · rfl

theorem stT_whole {T N : Nat} (hi : (Yba.prog.info? T).map (·.size) = some N) (b o : Nat) (B : Array Value) (w : World) :
    (stT T (.pointer (some ⟨b, o, none⟩)) (.agg B)).run Yba.prog w = wstore T N b o (objAt w b) B w := by
  unfold objAt
  unfold wstore
  split
  · rename_i A t fr h
    split
    · rename_i hs
      obtain ⟨h1, h2, h3, rfl⟩ := hs
      exact run_storeAt_mid w b o T B (obj_there h o _ (by omega)) (by rw [h2]; exact hi) h3
    · rfl
  · rfl

theorem ld56_whole (b : Nat) (w : World) : (ldT 56 (.pointer (some ⟨b, 0, none⟩))).run Yba.prog w = whole 56 24 b (objAt w b) w := ldT_whole Yba.underlying56 rfl info56 b w
theorem ld54_whole (b : Nat) (w : World) : (ldT 54 (.pointer (some ⟨b, 0, none⟩))).run Yba.prog w = whole 54 19 b (objAt w b) w := ldT_whole Yba.underlying54 rfl info54 b w
theorem ld70_whole (b : Nat) (w : World) : (ldT 70 (.pointer (some ⟨b, 0, none⟩))).run Yba.prog w = whole 70 13 b (objAt w b) w := ldT_whole Yba.underlying70 rfl info70 b w
theorem ld59_whole (b : Nat) (w : World) : (ldT 59 (.pointer (some ⟨b, 0, none⟩))).run Yba.prog w = whole 59 3 b (objAt w b) w := ldT_whole Yba.underlying59 rfl info59 b w
theorem st59_whole (b o : Nat) (B : Array Value) (w : World) : (stT 59 (.pointer (some ⟨b, o, none⟩)) (.agg B)).run Yba.prog w = wstore 59 3 b o (objAt w b) B w := stT_whole info59 b o B w
theorem st56_whole (b o : Nat) (B : Array Value) (w : World) : (stT 56 (.pointer (some ⟨b, o, none⟩)) (.agg B)).run Yba.prog w = wstore 56 24 b o (objAt w b) B w := stT_whole info56 b o B w
theorem st54_whole (b o : Nat) (B : Array Value) (w : World) : (stT 54 (.pointer (some ⟨b, o, none⟩)) (.agg B)).run Yba.prog w = wstore 54 19 b o (objAt w b) B w := stT_whole info54 b o B w
theorem st70_whole (b o : Nat) (B : Array Value) (w : World) : (stT 70 (.pointer (some ⟨b, o, none⟩)) (.agg B)).run Yba.prog w = wstore 70 13 b o (objAt w b) B w := stT_whole info70 b o B w

/-- .. and out of the midst of a row. -/
theorem ld56_mid {w : World} {b o : Nat} {cs : List Value} (hc : w.rangeAt b o cs) (h : cs.length = 24) : (ldT 56 (.pointer (some ⟨b, o, none⟩))).run Yba.prog w = .ok (.agg cs.toArray) w :=
  run_loadAt_mid w b o 56 cs _ hc Yba.underlying56 rfl (by rw [h]; exact info56)
theorem ld54_mid {w : World} {b o : Nat} {cs : List Value} (hc : w.rangeAt b o cs) (h : cs.length = 19) : (ldT 54 (.pointer (some ⟨b, o, none⟩))).run Yba.prog w = .ok (.agg cs.toArray) w :=
  run_loadAt_mid w b o 54 cs _ hc Yba.underlying54 rfl (by rw [h]; exact info54)
theorem ld70_mid {w : World} {b o : Nat} {cs : List Value} (hc : w.rangeAt b o cs) (h : cs.length = 13) : (ldT 70 (.pointer (some ⟨b, o, none⟩))).run Yba.prog w = .ok (.agg cs.toArray) w :=
  run_loadAt_mid w b o 70 cs _ hc Yba.underlying70 rfl (by rw [h]; exact info70)

theorem ld59_mid {w : World} {b o : Nat} {cs : List Value} (hc : w.rangeAt b o cs) (h : cs.length = 3) : (ldT 59 (.pointer (some ⟨b, o, none⟩))).run Yba.prog w = .ok (.agg cs.toArray) w :=
  run_loadAt_mid w b o 59 cs _ hc Yba.underlying59 rfl (by rw [h]; exact info59)

/-! ### The heap behind an alloc, a draw, a store -/
theorem heapN (W : World) (o : Obj) (b : Nat) (h : b = W.heap.size) : objAt (W.alloc o) b = some o := by
  subst h
  exact heap_alloc_new W o
theorem heapP (W : World) (o : Obj) (b : Nat) (h : b < W.heap.size) : objAt (W.alloc o) b = objAt W b := Below.heap_alloc _ _ _ h
theorem heapD (W : World) (b : Nat) : objAt W.drew b = objAt W b := rfl
theorem heapC (W : World) (a : Addr) (v : Value) (b : Nat) (h : b ≠ a.block) : objAt (W.setCell a v) b = objAt W b := Below.heap_setCell _ _ _ _ h
theorem setsN (W : World) (A : Array Value) (t : TypeId) (b o : Nat) (vs : List Value) (h : b = W.heap.size) : (W.alloc (.cells A t (0, 0))).setCells b o vs = W.alloc (.cells (spl A o vs) t (0, 0)) := by
  induction vs generalizing o A with
  | nil => rfl
  | cons v vs ih =>
    rw [World.setCells, spl, World.setCell_alloc_at _ _ _ _ _ h]
    exact ih _ _
theorem setsP (W : World) (q : Obj) (b o : Nat) (vs : List Value) (h : b < W.heap.size) : (W.alloc q).setCells b o vs = (W.setCells b o vs).alloc q := by
  induction vs generalizing o W with
  | nil => rfl
  | cons v vs ih =>
    rw [World.setCells, World.setCells, World.setCell_alloc_past _ _ _ _ h]
    exact ih _ _ (by simpa [World.setCell] using h)
theorem setsD (W : World) (b o : Nat) (vs : List Value) : W.drew.setCells b o vs = (W.setCells b o vs).drew := by
  induction vs generalizing o W with
  | nil => rfl
  | cons v vs ih =>
    rw [World.setCells, World.setCells, World.setCell_drew]
    exact ih _ _
theorem heapDN (W : World) (n b : Nat) : objAt (W.drewN n) b = objAt W b := rfl
theorem allocDN (W : World) (n : Nat) (o : Obj) : (W.drewN n).alloc o = (W.alloc o).drewN n := rfl
theorem cellDN (W : World) (n : Nat) (a : Addr) (v : Value) : (W.drewN n).setCell a v = (W.setCell a v).drewN n := rfl
theorem setsDN (W : World) (n b o : Nat) (vs : List Value) : (W.drewN n).setCells b o vs = (W.setCells b o vs).drewN n := by
  induction vs generalizing o W with
  | nil => rfl
  | cons v vs ih =>
    rw [World.setCells, World.setCells, cellDN]
    exact ih _ _
theorem belowDN {B : Nat} {a w : World} (h : Below B a w) (n : Nat) : Below B a (w.drewN n) := h.trans ⟨rfl, rfl, rfl, Nat.le_refl _, fun _ _ => rfl⟩
theorem size_sets (W : World) (b o : Nat) (vs : List Value) : (W.setCells b o vs).heap.size = W.heap.size := size_setCells W b o vs
theorem all_toArray (cs : List Value) (h : ∀ v ∈ cs, v.oneCell' = true) : cs.toArray.all (·.oneCell') = true := all_oneCell_toArray h

/-! ### The zero of a block of places: 3072 cells, never laid open -/
noncomputable def zv79 : Sem Value := zeroValue 79
noncomputable def Z79 : Array Value := match (Yba.prog.info? 79).bind (·.zero) with | some (.agg a) => a | _ => #[]
theorem zv79_size : ((Yba.prog.info? 79).bind (·.zero)).map (fun v => match v with | .agg a => a.size | _ => 0) = some 3072 := by kernel_rfl
theorem zv79_fold : zeroValue 79 = zv79 := rfl
theorem zv79_run (w : World) : zv79.run Yba.prog w = .ok (.agg Z79) w := by
  unfold zv79 Z79
  have h := zv79_size
  cases hi : Yba.prog.info? 79 with
  | none => rw [hi] at h; simp at h
  | some i =>
    rw [hi] at h
    cases hz : i.zero with
    | none => simp [hz] at h
    | some z =>
      cases z with
      | agg a => simp [zeroValue, typeInfo, hi, hz]
      | _ => simp [hz] at h
theorem Z79_size : Z79.size = 3072 := by
  unfold Z79
  have h := zv79_size
  cases hi : (Yba.prog.info? 79).bind (·.zero) with
  | none => rw [hi] at h; simp at h
  | some z =>
    rw [hi] at h
    cases z with
    | agg a => simpa using h
    | _ => simp at h
theorem info76 : (Yba.prog.info? 76).map (fun i => (i.zero, i.size, i.bytes)) = some (some (.pointer none), 1, 8) := by kernel_rfl

theorem Fr.rerole {S : Nat → Prop} {ρ ρ' ρ'' : Nat → Nat} {w w' : World} (h : Fr S ρ ρ' w w') (h1 : ∀ b, b < w.heap.size → ρ'' b = ρ b) (h2 : ∀ b, w'.heap.size ≤ b → ρ'' b = ρ' b) : Fr S ρ ρ'' w w' :=
  ⟨h.os, h.tape, h.output, h.size, h.block, h1, fun ht b hb => by rw [h2 b hb]; exact h.tidy ht b hb⟩

end Go.Proofs.Ybulkdljs
