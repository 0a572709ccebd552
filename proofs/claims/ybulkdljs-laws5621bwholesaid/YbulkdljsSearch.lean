/-
  The walks over the tree's search: (*history).sortKey, search$1, sort.Search at it, (*keyNode).search.
-/
import Derived.Test.YbulkdljsTline
namespace Go.Proofs.Ybulkdljs
open Go.RowKit

theorem sortKey_any (hb : Nat) (s : ByteArray) (w : World) (h : w.cell? ⟨hb, 0, none⟩ = some (.string s)) :
    Calls Yba.prog 55 #[.pointer (some ⟨hb, 0, none⟩)] w fun e w' => e = .returned (.string s) ∧ w' = w := by
  go_enter Yba.func55, Yba.ntmps55
  go_wp2
  go_ret
  exact ⟨rfl, rfl⟩

theorem method_sortKey (a : Addr) (w : World) : (method 257 45 (.pointer (some a)) "example.com/revtree/revtree.sortKey").run Yba.prog w = .ok (55, .pointer (some a)) w := by kernel_rfl

set_option maxRecDepth 100000 in
set_option maxHeartbeats 1000000 in
/-- The test of the binary search: an answer, and nothing written. -/
theorem search1_any (i a b node g n cap hb : Nat) (s key : ByteArray) (w : World) (hi : (i : Int) < (n : Int)) (h1 : w.cell? ⟨a, 0, none⟩ = some (.pointer (some ⟨node, 0, none⟩))) (h2 : w.cell? ⟨b, 0, none⟩ = some (.string key))
    (h3 : w.cell? ⟨node, 0, none⟩ = some (.slice (some ⟨g, 0, none⟩) n cap)) (h4 : w.cell? ⟨g, i, none⟩ = some (.pointer (some ⟨hb, 0, none⟩))) (h5 : w.cell? ⟨hb, 0, none⟩ = some (.string s)) :
    Calls Yba.prog 29 #[.int .i64 i, .pointer (some ⟨a, 0, none⟩), .pointer (some ⟨b, 0, none⟩)] w fun e w' => ∃ r k, e = .returned (.bool r) ∧ w' = w.drewN k := by
  have i0 : (0 : Int) ≤ (i : Int) := by omega
  have hm := method_sortKey
  go_enter Yba.func29, Yba.ntmps29
  go_wp2
  go_region_held3 (fun w' => w'.cell? ⟨a, 0, none⟩ = some (.pointer (some ⟨node, 0, none⟩)) ∧ w'.cell? ⟨b, 0, none⟩ = some (.string key) ∧ w'.cell? ⟨node, 0, none⟩ = some (.slice (some ⟨g, 0, none⟩) n cap) ∧ w'.cell? ⟨g, i, none⟩ = some (.pointer (some ⟨hb, 0, none⟩)) ∧ w'.cell? ⟨hb, 0, none⟩ = some (.string s))
    (exact ⟨h1, h2, h3, h4, h5⟩) (first | (go_at_call 55; refine (sortKey_any hb s _ ?_).mono ?_; exact h5; rintro e w' ⟨rfl, rfl⟩))
  go_wp2
  go_ret
  exact ⟨_, _, rfl, rfl⟩

/-- The search's loop: its answer. -/
def SRes (w : World) (n : Nat) (e : Ending) (w' : World) : Prop := ∃ r k, r ≤ n ∧ e = .returned (.int .i64 (r : Nat)) ∧ w' = w.drewN k

set_option maxRecDepth 100000 in
set_option maxHeartbeats 1000000 in
theorem sortSearch_any (n : Nat) (pa pb : Value) (w : World) (hn : n ≤ 1048576)
    (hf : ∀ i k, i < n → Calls Yba.prog 29 #[.int .i64 (i : Nat), pa, pb] (w.drewN k) fun e w' => ∃ r k', e = .returned (.bool r) ∧ w' = (w.drewN k).drewN k') :
    Calls Yba.prog 28 #[.int .i64 n, .func (.func 29) #[] #[pa, pb]] w (SRes w n) := by
  have hf' : ∀ (x : Int) (i k : Nat), x = (i : Int) → i < n → Calls Yba.prog 29 #[.int .i64 x, pa, pb] (w.drewN k) fun e w' => ∃ r k', e = .returned (.bool r) ∧ w' = (w.drewN k).drewN k' := fun x i k e h => by
    rw [e]; exact hf i k h
  clear hf
  go_enter Yba.func28, Yba.ntmps28
  go_wp2
  go_loopw [5, 6] (fun a b wr => ∃ (i j : Nat) (k : Nat), i ≤ j ∧ j ≤ n ∧ a = .int .i64 i ∧ b = .int .i64 j ∧ wr = w.drewN k) (fun a b _ => (intOf b).toNat - (intOf a).toNat)
  case atStart => exact ⟨0, n, 0, Nat.zero_le _, Nat.le_refl _, rfl, rfl, rfl⟩
  case round =>
    obtain ⟨i, j, k, hij, hjn, rfl, rfl, rfl⟩ := hrel
    by_cases hlt : i < j
    · have i1 : (i : Int) < (j : Int) := by omega
      have i2 : (j : Int) ≤ 1048576 := by omega
      have i3 : (0 : Int) ≤ (i : Int) := by omega
      go_wp2_with (first | (go_at_call 29; refine (hf' _ ((i + j) / 2) _ (by omega) (by omega)).mono ?_; rintro e w' ⟨r, k', rfl, rfl⟩))
      · refine ⟨⟨(i + j) / 2 + 1, j, k + k', by omega, hjn, by simp, rfl, by simp⟩, ?_⟩
        simp [intOf]
        omega
      · refine ⟨⟨i, (i + j) / 2, k + k', by omega, by omega, rfl, by simp, by simp⟩, ?_⟩
        simp [intOf]
        omega
    · have i1 : ¬ ((i : Int) < (j : Int)) := by omega
      go_wp2
      go_ret
      exact ⟨i, k, by omega, rfl, rfl⟩

/-- The first n cells of a row are pointers to histories. -/
def Ents (w : World) (ao : Option Addr) (n : Nat) : Prop := ∀ i, i < n → ∃ g hb s, ao = some ⟨g, 0, none⟩ ∧ w.cell? ⟨g, i, none⟩ = some (.pointer (some ⟨hb, 0, none⟩)) ∧ w.cell? ⟨hb, 0, none⟩ = some (.string s)
theorem Ents.below {w W : World} {ao : Option Addr} {n : Nat} (h : Ents w ao n) (hb : Below w.heap.size w W) : Ents W ao n := fun i hi => by
  obtain ⟨g, b, s, h1, h2, h3⟩ := h i hi
  exact ⟨g, b, s, h1, (hb.cell (World.block_lt_of_cell? _ _ h2)).trans h2, (hb.cell (World.block_lt_of_cell? _ _ h3)).trans h3⟩

def SeRes (w : World) (n : Nat) (e : Ending) (w' : World) : Prop := ∃ r f, r ≤ n ∧ e = .returned (.tuple #[.int .i64 (r : Nat), .bool f]) ∧ Below w.heap.size w w'

set_option maxRecDepth 100000 in
set_option maxHeartbeats 1000000 in
theorem search_any (node n cap : Nat) (ao : Option Addr) (key : ByteArray) (w : World) (hn : n ≤ 1048576) (h1 : w.cell? ⟨node, 0, none⟩ = some (.slice ao n cap)) (hE : Ents w ao n) :
    Calls Yba.prog 23 #[.pointer (some ⟨node, 0, none⟩), .string key] w (SeRes w n) := by
  have hnode : node < w.heap.size := World.block_lt_of_cell? _ _ h1
  obtain ⟨W, hW⟩ : ∃ W, W = (w.alloc (.cells #[.pointer (some ⟨node, 0, none⟩)] 25)).alloc (.cells #[.string key] 9) := ⟨_, rfl⟩
  have hB : Below w.heap.size w W := by rw [hW]; exact (Below.alloc (Below.refl _ _) (Nat.le_refl _) _).alloc (by simp) _
  have e1 : W.cell? ⟨w.heap.size, 0, none⟩ = some (.pointer (some ⟨node, 0, none⟩)) := by
    rw [hW, World.cell?_alloc_past _ _ _ (by simp)]
    exact World.cell?_alloc_at _ _ _ _ rfl
  have e2 : W.cell? ⟨w.heap.size + 1, 0, none⟩ = some (.string key) := by rw [hW]; exact World.cell?_alloc_at _ _ _ _ (by simp)
  have e3 : W.cell? ⟨node, 0, none⟩ = some (.slice ao n cap) := (hB.cell hnode).trans h1
  have hE' : Ents W ao n := hE.below hB
  have hf : ∀ i k, i < n → Calls Yba.prog 29 #[.int .i64 (i : Nat), .pointer (some ⟨w.heap.size, 0, none⟩), .pointer (some ⟨w.heap.size + 1, 0, none⟩)] (W.drewN k) fun e w' => ∃ r k', e = .returned (.bool r) ∧ w' = (W.drewN k).drewN k' := fun i k hi => by
    obtain ⟨g, hb, s, rfl, f1, f2⟩ := hE' i hi
    exact search1_any i _ _ node g n cap hb s key _ (by omega) e1 e2 e3 f1 f2
  have hsch := hid (fun k => sortSearch_any n (.pointer (some ⟨w.heap.size, 0, none⟩)) (.pointer (some ⟨w.heap.size + 1, 0, none⟩)) (W.drewN k) hn (fun i k' hi => by
    have := hf i (k + k') hi
    simpa using this))
  clear hf hE
  replace hE' := hid hE'
  replace hB := hid hB
  replace hW := hid hW
  have hm := method_sortKey
  go_enter Yba.func23, Yba.ntmps23
  go_wp2_with (first | (go_at_call 28; rw [← hW]; refine (hsch 0).mono ?_; intro e w' hq; obtain ⟨r, k, hr, rfl, rfl⟩ := hq))
  by_cases hrn : r < n
  · obtain ⟨g, hb, s, rfl, f1, f2⟩ := hE' r hrn
    have i1 : (r : Int) < (n : Int) := by omega
    have i2 : (0 : Int) ≤ (r : Int) := by omega
    have K0 : ∀ w1, Same W w1 → w1.cell? ⟨w.heap.size, 0, none⟩ = some (.pointer (some ⟨node, 0, none⟩)) ∧ w1.cell? ⟨w.heap.size + 1, 0, none⟩ = some (.string key) ∧ w1.cell? ⟨node, 0, none⟩ = some (.slice (some ⟨g, 0, none⟩) n cap) ∧ w1.cell? ⟨g, r, none⟩ = some (.pointer (some ⟨hb, 0, none⟩)) ∧ w1.cell? ⟨hb, 0, none⟩ = some (.string s) := fun w1 h =>
      ⟨(h.cell _).trans e1, (h.cell _).trans e2, (h.cell _).trans e3, (h.cell _).trans f1, (h.cell _).trans f2⟩
    replace K0 := hid K0
    have f2' := hid f2
    clear hsch
    go_region_held3 (fun w1 => w1.cell? ⟨w.heap.size, 0, none⟩ = some (.pointer (some ⟨node, 0, none⟩)) ∧ w1.cell? ⟨w.heap.size + 1, 0, none⟩ = some (.string key) ∧ w1.cell? ⟨node, 0, none⟩ = some (.slice (some ⟨g, 0, none⟩) n cap) ∧ w1.cell? ⟨g, r, none⟩ = some (.pointer (some ⟨hb, 0, none⟩)) ∧ w1.cell? ⟨hb, 0, none⟩ = some (.string s))
      (exact K0 _ ⟨rfl, rfl, rfl, rfl⟩) (first | (go_at_call 55; refine (sortKey_any hb s _ ?_).mono ?_; exact f2'; rintro e w' ⟨rfl, rfl⟩))
    go_wp2
    go_ret2
    exact ⟨r, _, hr, rfl, (belowDN hB _)⟩
  · have i1 : ¬ ((r : Int) < (n : Int)) := by omega
    clear hsch
    go_quiet (fail)
    go_wp2
    go_ret2
    exact ⟨r, _, hr, rfl, (belowDN hB _)⟩
end Go.Proofs.Ybulkdljs
