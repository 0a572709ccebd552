/-
  What the walks over revtree's index lean on, no walk among it: ROLES of blocks and frames by roles; the cells of changes, places, revisions; the map from keys to histories.
-/
import Derived.Test.YbulkdljsRows
import Derived.WalkKit
import Derived.WalkSpells
import Derived.WalkLawsBesides
import Derived.Deep.AppendLies
import Derived.Deep.MidRow
import Derived.Maps.OwnSet
namespace Go.Proofs.Ybulkdljs
open Go.RowKit

theorem hid {p : Prop} (h : p) : Hid p := h

/-! ### Roles and frames -/
/-- Block b gets role r. -/
def upd (ρ : Nat → Nat) (b r : Nat) : Nat → Nat := fun x => if x = b then r else ρ x
theorem upd_same (ρ : Nat → Nat) (b r : Nat) : upd ρ b r b = r := by simp [upd]
theorem upd_other (ρ : Nat → Nat) {b r x : Nat} (h : x ≠ b) : upd ρ b r x = ρ x := by simp [upd, h]

/-- Blocks whose role is not in S are as they were; roles of what was there stay; what is not there has no role. -/
structure Fr (S : Nat → Prop) (ρ ρ' : Nat → Nat) (w w' : World) : Prop where
  os : w'.os = w.os
  tape : w'.tape = w.tape
  output : w'.output = w.output
  size : w.heap.size ≤ w'.heap.size
  block : ∀ b, b < w.heap.size → ¬ S (ρ b) → w'.heap[b]? = w.heap[b]?
  role : ∀ b, b < w.heap.size → ρ' b = ρ b
  tidy : (∀ b, w.heap.size ≤ b → ρ b = 0) → ∀ b, w'.heap.size ≤ b → ρ' b = 0

theorem Fr.refl (S : Nat → Prop) (ρ : Nat → Nat) (w : World) : Fr S ρ ρ w w := ⟨rfl, rfl, rfl, Nat.le_refl _, fun _ _ _ => rfl, fun _ _ => rfl, fun h => h⟩

theorem Fr.trans {S : Nat → Prop} {ρ ρ' ρ'' : Nat → Nat} {a b c : World} (h : Fr S ρ ρ' a b) (k : Fr S ρ' ρ'' b c) : Fr S ρ ρ'' a c :=
  ⟨k.os.trans h.os, k.tape.trans h.tape, k.output.trans h.output, Nat.le_trans h.size k.size,
    fun i hi hs => (k.block i (Nat.lt_of_lt_of_le hi h.size) (by rw [h.role i hi]; exact hs)).trans (h.block i hi hs),
    fun i hi => (k.role i (Nat.lt_of_lt_of_le hi h.size)).trans (h.role i hi), fun ht => k.tidy (h.tidy ht)⟩

theorem Fr.mono {S S' : Nat → Prop} {ρ ρ' : Nat → Nat} {w w' : World} (h : Fr S ρ ρ' w w') (hs : ∀ r, S r → S' r) : Fr S' ρ ρ' w w' :=
  ⟨h.os, h.tape, h.output, h.size, fun b hb hn => h.block b hb (fun q => hn (hs _ q)), h.role, h.tidy⟩

theorem Fr.drew {S : Nat → Prop} {ρ ρ' : Nat → Nat} {w w' : World} (h : Fr S ρ ρ' w w') : Fr S ρ ρ' w w'.drew := ⟨h.os, h.tape, h.output, h.size, h.block, h.role, h.tidy⟩
theorem Fr.drewN {S : Nat → Prop} {ρ ρ' : Nat → Nat} {w w' : World} (h : Fr S ρ ρ' w w') (n : Nat) : Fr S ρ ρ' w (w'.drewN n) := ⟨h.os, h.tape, h.output, h.size, h.block, h.role, h.tidy⟩

theorem Fr.alloc {S : Nat → Prop} {ρ ρ' : Nat → Nat} {w w' : World} (h : Fr S ρ ρ' w w') (o : Obj) : Fr S ρ ρ' w (w'.alloc o) :=
  h.trans ⟨rfl, rfl, rfl, by simp, fun b hb _ => Below.heap_alloc _ _ _ hb, fun _ _ => rfl, fun ht b hb => ht b (by simp at hb; omega)⟩

/-- A new block with a role of its own. -/
theorem Fr.allocAs {S : Nat → Prop} {ρ ρ' : Nat → Nat} {w w' : World} (h : Fr S ρ ρ' w w') (o : Obj) (r : Nat) : Fr S ρ (upd ρ' w'.heap.size r) w (w'.alloc o) :=
  h.trans ⟨rfl, rfl, rfl, by simp, fun b hb _ => Below.heap_alloc _ _ _ hb, fun b hb => upd_other _ (by omega), fun ht b hb => by
    simp at hb
    rw [upd_other _ (by omega)]; exact ht b (by omega)⟩

theorem Fr.setCell {S : Nat → Prop} {ρ ρ' : Nat → Nat} {w w' : World} (h : Fr S ρ ρ' w w') {a : Addr} (ha : S (ρ' a.block)) (v : Value) : Fr S ρ ρ' w (w'.setCell a v) :=
  h.trans ⟨rfl, rfl, rfl, by simp [World.setCell], fun b _ hs => Below.heap_setCell _ _ _ _ (fun e => hs (by rw [e]; exact ha)), fun _ _ => rfl, fun ht b hb => ht b (by simpa [World.setCell] using hb)⟩

theorem heap_setCells (w : World) (b o : Nat) : ∀ (vs : List Value) (k : Nat), k ≠ b → (w.setCells b o vs).heap[k]? = w.heap[k]? := by
  intro vs
  induction vs generalizing w o with
  | nil => intro k _; rfl
  | cons v vs ih =>
    intro k hk
    simp only [World.setCells]
    rw [ih]
    · exact Below.heap_setCell _ _ _ _ hk
    · exact hk

theorem size_setCells (w : World) (b o : Nat) : ∀ (vs : List Value), (w.setCells b o vs).heap.size = w.heap.size := by
  intro vs
  induction vs generalizing w o with
  | nil => rfl
  | cons v vs ih =>
    simp only [World.setCells]
    rw [ih]
    simp [World.setCell]

/-- An append, a make, a store into a map, by laws that end in 'grownBy'. -/
theorem Fr.grown {S : Nat → Prop} {ρ ρ' : Nat → Nat} {w w' w'' : World} {row : Option Nat} (h : Fr S ρ ρ' w w') (hg : w'.grownBy w'' row) (hr : ∀ g, row = some g → S (ρ' g)) : Fr S ρ ρ' w w'' :=
  h.trans ⟨hg.os, hg.tape, hg.output, hg.size, fun b hb hs => hg.block b hb (fun e => hs (hr b e.symm)), fun _ _ => rfl, fun ht b hb => ht b (by have := hg.size; omega)⟩

/-- .. and the new block gets a role. -/
theorem Fr.grownAs {S : Nat → Prop} {ρ ρ' : Nat → Nat} {w w' w'' : World} {row : Option Nat} (h : Fr S ρ ρ' w w') (hg : w'.grownBy w'' row) (hr : ∀ g, row = some g → S (ρ' g)) {b : Nat} (hb : w'.heap.size ≤ b) (hb' : b < w''.heap.size) (r : Nat) :
    Fr S ρ (upd ρ' b r) w w'' :=
  h.trans ⟨hg.os, hg.tape, hg.output, hg.size, fun k hk hs => hg.block k hk (fun e => hs (hr k e.symm)), fun k hk => upd_other _ (by omega), fun ht k hk => by
    rw [upd_other _ (by omega)]; exact ht k (by have := hg.size; omega)⟩

theorem Fr.cell {S : Nat → Prop} {ρ ρ' : Nat → Nat} {w w' : World} (h : Fr S ρ ρ' w w') {a : Addr} {v : Value} (hc : w.cell? a = some v) (hs : ¬ S (ρ a.block)) : w'.cell? a = some v :=
  (World.cell?_of_block (h.block a.block (World.block_lt_of_cell? _ _ hc) hs)).trans hc

theorem Fr.obj {S : Nat → Prop} {ρ ρ' : Nat → Nat} {w w' : World} (h : Fr S ρ ρ' w w') {b : Nat} {o : Obj} (hc : w.heap[b]? = some o) (hs : ¬ S (ρ b)) : w'.heap[b]? = some o :=
  (h.block b (Array.getElem?_eq_some_iff.1 hc).1 hs).trans hc

theorem Fr.below {S : Nat → Prop} {ρ ρ' : Nat → Nat} {w w' : World} (h : Fr S ρ ρ' w w') {w0 : World} {B : Nat} (hb : Below B w0 w) (hB : B ≤ w.heap.size) (hs : ∀ b, b < B → ¬ S (ρ b)) : Below B w0 w' :=
  hb.trans ⟨h.os, h.tape, h.output, h.size, fun k hk => h.block k (by omega) (hs k hk)⟩

/-- A row that is owned stays owned where its block's role is not touched. -/
theorem Fr.owns {S : Nat → Prop} {ρ ρ' : Nat → Nat} {w w' : World} (h : Fr S ρ ρ' w w') {base e size n : Nat} {v : Value} {xs : List Value} (ho : w.ownsRow base e size v n xs) (hs : ∀ g, v.ownBlock = some g → ¬ S (ρ g)) : w'.ownsRow base e size v n xs := by
  refine ⟨ho.1, ?_⟩
  rcases ho.2 with ⟨h1, h2⟩ | ⟨g, cap, cur, rfl, hb, hg, r⟩
  · exact .inl ⟨h1, h2⟩
  · exact .inr ⟨g, cap, cur, rfl, hb, h.obj hg (hs g rfl), r⟩

theorem Fr.roleOf {S : Nat → Prop} {ρ ρ' : Nat → Nat} {w w' : World} (h : Fr S ρ ρ' w w') {base e size n : Nat} {v : Value} {xs : List Value} (ho : w.ownsRow base e size v n xs) {r : Nat} (hr : ∀ g, v.ownBlock = some g → ρ g = r) : ∀ g, v.ownBlock = some g → ρ' g = r :=
  fun g hg => by rw [h.role g (ho.lt g hg).2]; exact hr g hg

/-! ### Objects and their cells -/
theorem obj_cell {w : World} {b : Nat} {cs : Array Value} {t : TypeId} {fr : Nat × Nat} (h : w.heap[b]? = some (.cells cs t fr)) (i : Nat) : w.cell? ⟨b, i, none⟩ = cs[i]? := cell_of_row w b i cs t fr h
theorem obj_frozen {w : World} {b : Nat} {cs : Array Value} {t : TypeId} (h : w.heap[b]? = some (.cells cs t (0, 0))) (i : Nat) : w.frozen? ⟨b, i, none⟩ = false := by simp [World.frozen?, h]
theorem obj_set {w : World} {b : Nat} {cs : Array Value} {t : TypeId} {fr : Nat × Nat} (h : w.heap[b]? = some (.cells cs t fr)) (i : Nat) (v : Value) : (w.setCell ⟨b, i, none⟩ v).heap[b]? = some (.cells (cs.setIfInBounds i v) t fr) := by
  simp [World.setCell, Array.getElem?_modify, h]
theorem obj_lt {w : World} {b : Nat} {o : Obj} (h : w.heap[b]? = some o) : b < w.heap.size := (Array.getElem?_eq_some_iff.1 h).1

/-! ### Changes -/
structure Chg where
  main : Int
  sub : Int
  create : Int
  version : Int
  addr : Int
  size : Int
  sum : Int
  lease : Int

/-- A change's twenty-four cells. -/
def Chg.cells (c : Chg) : List Value :=
  [.int .i64 c.main, .int .i64 c.sub, .int .i64 c.create, .int .i64 c.version, .int .i64 c.addr, .int .u32 c.size, .int .u32 c.sum,
    .int .u8 0, .int .u8 0, .int .u8 0, .int .u8 0, .int .u8 0, .int .u8 0, .int .u8 0, .int .u8 0, .int .u8 0, .int .u8 0, .int .u8 0, .int .u8 0, .int .u8 0, .int .u8 0, .int .u8 0, .int .u8 0, .int .i64 c.lease]
def chgs (l : List Chg) : List Value := l.flatMap Chg.cells
theorem Chg.cells_length (c : Chg) : c.cells.length = 24 := rfl
theorem chgs_length (l : List Chg) : (chgs l).length = l.length * 24 := by
  induction l with
  | nil => rfl
  | cons c l ih => simp only [chgs, List.flatMap_cons, List.length_append, List.length_cons] at *; rw [ih, Chg.cells_length]; omega
theorem chgs_snoc (l : List Chg) (c : Chg) : chgs (l ++ [c]) = chgs l ++ c.cells := by simp [chgs]
theorem Chg.one (c : Chg) : ∀ u ∈ c.cells, u.oneCell' = true := by
  intro u hu
  simp only [Chg.cells, List.mem_cons, List.not_mem_nil, or_false] at hu
  rcases hu with rfl | rfl | rfl | rfl | rfl | rfl | rfl | rfl | rfl | rfl | rfl | rfl | rfl | rfl | rfl | rfl | rfl | rfl | rfl | rfl | rfl | rfl | rfl | rfl <;> rfl

/-- The j-th cell of the i-th of equal stretches. -/
theorem flat_at {α : Type} (f : α → List Value) (n : Nat) (hn : ∀ a, (f a).length = n) : ∀ (l : List α) (i j : Nat) (a : α), l[i]? = some a → j < n → (l.flatMap f)[i * n + j]? = (f a)[j]?
  | [], i, j, a, h, _ => by simp at h
  | x :: l, 0, j, a, h, hj => by
    simp at h
    subst h
    rw [List.flatMap_cons, List.getElem?_append_left (by rw [hn]; omega)]
    simp
  | x :: l, i + 1, j, a, h, hj => by
    have h' : l[i]? = some a := by simpa using h
    rw [List.flatMap_cons, List.getElem?_append_right (by rw [hn, Nat.add_mul]; omega), hn, show (i + 1) * n + j - n = i * n + j by rw [Nat.add_mul]; omega]
    exact flat_at f n hn l i j a h' hj

/-! ### Keys -/
def keyS : Nat → ByteArray
  | 0 => ⟨#[97]⟩
  | 1 => ⟨#[98]⟩
  | 2 => ⟨#[97, 98]⟩
  | 3 => ⟨#[99]⟩
  | _ => ⟨#[]⟩
def keyL (k : Nat) : Lit := .string (keyS k).data.toList
theorem keyL_inj {k j : Nat} (hk : k < 5) (hj : j < 5) (h : keyL k = keyL j) : k = j := by
  match k, hk, j, hj, h with
  | 0, _, 0, _, _ | 1, _, 1, _, _ | 2, _, 2, _, _ | 3, _, 3, _, _ | 4, _, 4, _, _ => rfl
  | 0, _, 1, _, h | 0, _, 2, _, h | 0, _, 3, _, h | 0, _, 4, _, h | 1, _, 0, _, h | 1, _, 2, _, h | 1, _, 3, _, h | 1, _, 4, _, h
  | 2, _, 0, _, h | 2, _, 1, _, h | 2, _, 3, _, h | 2, _, 4, _, h | 3, _, 0, _, h | 3, _, 1, _, h | 3, _, 2, _, h | 3, _, 4, _, h
  | 4, _, 0, _, h | 4, _, 1, _, h | 4, _, 2, _, h | 4, _, 3, _, h => simp [keyL, keyS] at h

/-! ### The map from keys to histories -/
/-- How a pointer to a block's head reads. -/
def ptrElem : Value → Option (DataW Unit × List MemPlace)
  | .pointer none => some (.nil, [])
  | .pointer (some ⟨b, 0, none⟩) => some (.lit (.int .i64 b), [])
  | _ => none
/-- A history's pointer, or nil. -/
def ptrOf : Option Nat → Value
  | none => .pointer none
  | some b => .pointer (some ⟨b, 0, none⟩)
def ptrD : Option Nat → DataW Unit
  | none => .nil
  | some b => .lit (.int .i64 b)
theorem ptrElem_of (o : Option Nat) : ptrElem (ptrOf o) = some (ptrD o, []) := by cases o <;> rfl
theorem ptrElem_inv {v : Value} {o : Option Nat} {ps : List MemPlace} (h : ptrElem v = some (ptrD o, ps)) : v = ptrOf o := by
  unfold ptrElem at h
  split at h
  · cases o with
    | none => rfl
    | some b => simp [ptrD] at h
  · cases o with
    | none => simp [ptrD] at h
    | some b =>
      simp only [ptrD, Option.some.injEq, Prod.mk.injEq, DataW.lit.injEq, Lit.int.injEq, true_and] at h
      have : _ = b := Int.ofNat.inj h.1
      subst this
      rfl
  · cases h

/-- How many of the five keys are there. -/
def count (M : Nat → Option Nat) : Nat := ((List.range 5).filter fun k => (M k).isSome).length

/-- Block mb is the map: key k leads to M k. -/
def MapIs (w : World) (mb : Nat) (M : Nat → Option Nat) : Prop :=
  ∃ D : DataW Unit, w.ownsMap Yba.prog 9 ptrElem mb 5 D ∧ (∀ k, k < 5 → D.atKey (keyL k) .nil = ptrD (M k)) ∧ (∀ k, k < 5 → Maps.has D (keyL k) = (M k).isSome) ∧ Maps.size D = count M

theorem count_le (M : Nat → Option Nat) : count M ≤ 5 := by
  unfold count
  have := List.length_filter_le (fun k => (M k).isSome) (List.range 5)
  simpa using this

/-- Key k gets a history. -/
def setM (M : Nat → Option Nat) (k b : Nat) : Nat → Option Nat := fun j => if j = k then some b else M j

theorem count_set (M : Nat → Option Nat) (k b : Nat) (hk : k < 5) (h : M k = none) : count (setM M k b) = count M + 1 := by
  unfold count
  have e : List.range 5 = [0, 1, 2, 3, 4] := by decide
  rw [e]
  match k, hk, h with
  | 0, _, h => simp [List.filter_cons, setM, h]
  | 1, _, h => simp [List.filter_cons, setM, h]; split <;> simp
  | 2, _, h => simp [List.filter_cons, setM, h]; split <;> split <;> simp
  | 3, _, h => simp [List.filter_cons, setM, h]; split <;> split <;> split <;> simp
  | 4, _, h => simp [List.filter_cons, setM, h]; split <;> split <;> split <;> split <;> simp

theorem map9 : Maps.Keyed Yba.prog 9 := Maps.string_keyed Yba.underlying9
theorem keyOf_k (k : Nat) : keyOf Yba.prog 9 (.string (keyS k)) = some (keyL k) := Go.WideMaps.keyOf_string_mk Yba.underlying9 (by unfold keyS; split <;> decide)
theorem zero45 (w : World) : (zeroValue 45).run Yba.prog w = .ok (.pointer none) w := by kernel_rfl

theorem MapIs.made (w : World) : MapIs (w.alloc (.map #[] 0)) w.heap.size (fun _ => none) :=
  ⟨.map [], (World.ownsMap_made w Yba.prog 9 ptrElem).mono (by omega), fun _ _ => rfl, fun _ _ => rfl, by decide⟩

theorem MapIs.lt {w : World} {mb : Nat} {M : Nat → Option Nat} (h : MapIs w mb M) : mb < w.heap.size := by
  obtain ⟨D, h1, _⟩ := h
  exact h1.lt

theorem MapIs.fr {S : Nat → Prop} {ρ ρ' : Nat → Nat} {w w' : World} {mb : Nat} {M : Nat → Option Nat} (h : MapIs w mb M) (f : Fr S ρ ρ' w w') (hs : ¬ S (ρ mb)) : MapIs w' mb M := by
  obtain ⟨D, ⟨es, clock, hb, F, r⟩, h2⟩ := h
  exact ⟨D, ⟨es, clock, f.obj hb hs, F, r⟩, h2⟩

theorem MapIs.look {w : World} {mb : Nat} {M : Nat → Option Nat} (h : MapIs w mb M) {k : Nat} (hk : k < 5) : (Instr.lookup 24 (.map (some mb)) (.string (keyS k)) false).run Yba.prog w = .ok (ptrOf (M k)) w := by
  obtain ⟨D, h1, h2, _⟩ := h
  obtain ⟨v, ps, hrun, hv⟩ := h1.lookup map9 Yba.underlying24 (zero45 w) (ptrElem_of none) (keyOf_k k)
  have e : D.atKey (keyL k) (ptrD none) = ptrD (M k) := h2 k hk
  rw [e] at hv
  rw [hrun, ptrElem_inv hv]

theorem MapIs.len {w : World} {mb : Nat} {M : Nat → Option Nat} (h : MapIs w mb M) (ty : TypeId) : (Builtin.len_ #[24] ty #[.map (some mb)]).run Yba.prog w = .ok (.int .i64 (count M)) w := by
  obtain ⟨D, h1, _, _, h4⟩ := h
  rw [h1.len Yba.underlying24 ty, h4]

theorem keyL_isKey (k : Nat) : WideAt.IsKeyLit (keyL k) := by unfold keyL; trivial

theorem MapIs.put {w : World} {mb : Nat} {M : Nat → Option Nat} (h : MapIs w mb M) {k b : Nat} (hk : k < 5) (hM : M k = none) :
    ∃ w', (Instr.mapUpdate 24 (.map (some mb)) (.string (keyS k)) (.pointer (some ⟨b, 0, none⟩))).run Yba.prog w = .ok () w' ∧ MapIs w' mb (setM M k b) ∧ w.grownBy w' (some mb) := by
  obtain ⟨D, h1, h2, h3, h4⟩ := h
  have hT := h1.tidy map9
  obtain ⟨w', hrun, hown, hg⟩ := h1.update map9 Yba.underlying24 (by unfold maxLen; omega) (keyOf_k k) (ptrElem_of (some b))
  have hsz : Maps.size (D.put (keyL k) (ptrD (some b))) = count (setM M k b) := by
    rw [Maps.size_put hT, h3 k hk, hM, count_set M k b hk hM, h4]; rfl
  refine ⟨w', hrun, ⟨D.put (keyL k) (ptrD (some b)), ?_, fun j hj => ?_, fun j hj => ?_, hsz⟩, hg⟩
  · obtain ⟨es, clock, hb, F, _, hD⟩ := hown
    refine ⟨es, clock, hb, F, ?_, hD⟩
    have e : Maps.size (D.put (keyL k) (ptrD (some b))) = es.size := by rw [hD, Maps.size_eq, length_read]
    have := count_le (setM M k b)
    omega
  · by_cases e : j = k
    · subst e
      rw [Maps.atKey_put_same hT.isMap (keyL_isKey j)]
      simp [setM, ptrD]
    · rw [Maps.atKey_put_other (fun q => e (keyL_inj hj hk q)), h2 j hj]
      simp [setM, e]
  · by_cases e : j = k
    · subst e
      rw [Maps.has_put_same hT.isMap (keyL_isKey j)]
      simp [setM]
    · rw [Maps.has_put_other (fun q => e (keyL_inj hj hk q)), h3 j hj]
      simp [setM, e]

end Go.Proofs.Ybulkdljs
