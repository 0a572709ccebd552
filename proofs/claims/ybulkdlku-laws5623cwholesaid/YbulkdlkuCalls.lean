/-
  The walks over sync/atomic.Int64's methods, crew.go's claim, and the law's closure.
-/
import Derived.Test.YbulkdlkuRows
import Derived.WalkKit
import Derived.WalkSpells
import Derived.WalkLawsBesides
import Derived.Laws.EntriesVeiled
namespace Go.Proofs.Ybulkdlku
open Go.RowKit

theorem store_any (b off : Nat) (y : Int) (u : Value) (w : World) (h0 : w.cell? ⟨b, off, none⟩ = some u) (f0 : w.frozen? ⟨b, off, none⟩ = false) :
    Calls Yba.prog 5 #[.pointer (some ⟨b, off, none⟩), .int .i64 y] w fun e w' => e = .returned (.tuple #[]) ∧ w' = w.setCell ⟨b, off, none⟩ (.int .i64 y) := by
  have hst := run_call_store (P := Yba.prog) Yba.func8 (by kernel_rfl) (by kernel_rfl) (by kernel_rfl) (by kernel_rfl) (k := .i64) (y := y) h0 f0
  go_enter Yba.func5, Yba.ntmps5
  go_wp2
  go_end0
  exact ⟨rfl, rfl⟩

theorem load_any (b off : Nat) (x : Int) (w : World) (h0 : w.cell? ⟨b, off, none⟩ = some (.int .i64 x)) :
    Calls Yba.prog 7 #[.pointer (some ⟨b, off, none⟩)] w fun e w' => e = .returned (.int .i64 x) ∧ w' = w := by
  have hl := run_call_load (P := Yba.prog) Yba.func10 (by kernel_rfl) (by kernel_rfl) (by kernel_rfl) .i64 (by kernel_rfl) h0
  go_enter Yba.func7, Yba.ntmps7
  go_wp2
  go_ret
  exact ⟨rfl, rfl⟩

theorem add_one (b off : Nat) (x s : Int) (w : World) (h0 : w.cell? ⟨b, off, none⟩ = some (.int .i64 x)) (f0 : w.frozen? ⟨b, off, none⟩ = false) (hs : IntKind.i64.wrap (x + 1) = s) :
    Calls Yba.prog 9 #[.pointer (some ⟨b, off, none⟩), .int .i64 1] w fun e w' => e = .returned (.int .i64 s) ∧ w' = w.setCell ⟨b, off, none⟩ (.int .i64 s) := by
  have ha := run_call_add (P := Yba.prog) Yba.func11 (by kernel_rfl) (by kernel_rfl) (by kernel_rfl) .i64 (by kernel_rfl) (y := 1) (s := s) h0 f0 (by simp [go_sem, hs])
  go_enter Yba.func9, Yba.ntmps9
  go_wp2
  go_ret
  exact ⟨rfl, rfl⟩

set_option maxHeartbeats 400000 in
/-- claim, the counter at the slice's end or past it. -/
theorem claim_past (B F n : Nat) (m s : Int) (w : World) (h0 : w.cell? ⟨B, 0, none⟩ = some (.slice (some ⟨F, 0, none⟩) n n)) (h1 : w.cell? ⟨B, 1, none⟩ = some (.int .i64 m)) (f1 : w.frozen? ⟨B, 1, none⟩ = false)
    (hs : IntKind.i64.wrap (m + 1) = s) (hb : wrap64 (s - 1) = m) (hm : (n : Int) ≤ m) :
    Calls Yba.prog 6 #[.pointer (some ⟨B, 0, none⟩)] w fun e w' => e = .returned .nilFunc ∧ w' = w.setCell ⟨B, 1, none⟩ (.int .i64 s) := by
  have h0' : (w.setCell ⟨B, 1, none⟩ (.int .i64 s)).cell? ⟨B, 0, none⟩ = some (.slice (some ⟨F, 0, none⟩) n n) := by rw [World.cell?_setCell_other _ _ _ _ (by simp)]; exact h0
  go_enter Yba.func6, Yba.ntmps6
  go_wp2_with (go_at_call 9; refine (add_one _ _ m s _ h1 f1 hs).mono ?_; rintro e w' ⟨rfl, rfl⟩)
  go_ret
  exact ⟨rfl, rfl⟩

set_option maxHeartbeats 400000 in
/-- claim, the counter inside the slice. -/
theorem claim_at (B F n : Nat) (m : Nat) (v : Value) (w : World) (hBF : ¬ B = F) (h0 : w.cell? ⟨B, 0, none⟩ = some (.slice (some ⟨F, 0, none⟩) n n)) (h1 : w.cell? ⟨B, 1, none⟩ = some (.int .i64 m)) (f1 : w.frozen? ⟨B, 1, none⟩ = false)
    (hv : w.cell? ⟨F, m, none⟩ = some v) (fv : w.frozen? ⟨F, m, none⟩ = false) (hm : m < n) (hn : n ≤ 1048576) :
    Calls Yba.prog 6 #[.pointer (some ⟨B, 0, none⟩)] w fun e w' => e = .returned v ∧ w' = (w.setCell ⟨B, 1, none⟩ (.int .i64 ((m : Int) + 1))).setCell ⟨F, m, none⟩ .nilFunc := by
  have hs : IntKind.i64.wrap ((m : Int) + 1) = (m : Int) + 1 := IntWalk.i64_in _ (by omega)
  have h0' : (w.setCell ⟨B, 1, none⟩ (.int .i64 ((m : Int) + 1))).cell? ⟨B, 0, none⟩ = some (.slice (some ⟨F, 0, none⟩) n n) := by rw [World.cell?_setCell_other _ _ _ _ (by simp)]; exact h0
  have hv' : (w.setCell ⟨B, 1, none⟩ (.int .i64 ((m : Int) + 1))).cell? ⟨F, m, none⟩ = some v := by rw [World.cell?_setCell_other _ _ _ _ (by simp)]; exact hv
  have i1 : (m : Int) < (n : Int) := by omega
  go_enter Yba.func6, Yba.ntmps6
  go_wp2_with (go_at_call 9; refine (add_one _ _ m _ _ h1 f1 hs).mono ?_; rintro e w' ⟨rfl, rfl⟩)
  go_ret
  exact ⟨rfl, rfl⟩

theorem info3 : (Yba.prog.info? 3).map (fun i => (i.zero, i.size, i.bytes)) = some (some (.int .i64 0), 1, 8) := by kernel_rfl

/-- Below block number B all is as it was, but for block L. -/
structure But (B L : Nat) (w w' : World) : Prop where
  os : w'.os = w.os
  tape : w'.tape = w.tape
  output : w'.output = w.output
  size : w.heap.size ≤ w'.heap.size
  block : ∀ k, k < B → k ≠ L → w'.heap[k]? = w.heap[k]?

theorem But.cell {B L : Nat} {w w' : World} (h : But B L w w') {p : Addr} (hp : p.block < B) (hne : p.block ≠ L) : w'.cell? p = w.cell? p := World.cell?_of_block (w := w) (h.block p.block hp hne)
theorem But.frozen {B L : Nat} {w w' : World} (h : But B L w w') {p : Addr} (hp : p.block < B) (hne : p.block ≠ L) : w'.frozen? p = w.frozen? p := World.frozen?_of_block (w := w) (h.block p.block hp hne)
theorem But.below {B L : Nat} {w0 w w' : World} (h : But B L w w') {S : Nat} (hb : Below S w0 w) (hS : S ≤ B) (hL : S ≤ L) : Below S w0 w' :=
  hb.trans ⟨h.os, h.tape, h.output, h.size, fun k hk => h.block k (by omega) (by omega)⟩

/-- A list of ints as cells. -/
def logOf (xs : List Int) : List Value := xs.map (Value.int .i64)
theorem logOf_length (xs : List Int) : (logOf xs).length = xs.length := by simp [logOf]

set_option maxRecDepth 100000 in
set_option maxHeartbeats 400000 in
/-- The law's closure: 'log = append(log, jj)'. -/
theorem note (L J base : Nat) (lv : Value) (xs : List Int) (j : Int) (w : World) (hl : w.cell? ⟨L, 0, none⟩ = some lv) (fl : w.frozen? ⟨L, 0, none⟩ = false) (hj : w.cell? ⟨J, 0, none⟩ = some (.int .i64 j))
    (hown : w.ownsRow base 3 1 lv xs.length (logOf xs)) (hLb : L < base) (hbz : base ≤ w.heap.size) (hx : xs.length ≤ 16777216) :
    Calls Yba.prog 4 #[.pointer (some ⟨L, 0, none⟩), .pointer (some ⟨J, 0, none⟩)] w fun e w' => e = .returned (.tuple #[]) ∧ But base L w w' ∧
      ∃ g cap, w'.cell? ⟨L, 0, none⟩ = some (.slice (some ⟨g, 0, none⟩) (xs.length + 1) cap) ∧ w'.frozen? ⟨L, 0, none⟩ = false ∧ w'.ownsRow base 3 1 (.slice (some ⟨g, 0, none⟩) (xs.length + 1) cap) (xs.length + 1) (logOf (xs ++ [j])) := by
  obtain ⟨i0, hi, hz0, hz1, hz2⟩ := info_parts info3
  go_enter Yba.func4, Yba.ntmps4
  go_wp2_with (at_builtin; refine wpList_append_own _ rfl (.tmp 2) (.tmp 4) 23 rfl base 3 i0 (.int .i64 0) 1 8 Yba.underlying23 hi hz0 hz1 hz2 rfl (by decide) lv xs.length (logOf xs) rfl (hown.alloc _) ⟨w.heap.size, 0, none⟩ 1 1 [.int .i64 j] rfl rfl (cell_one_new _ _ _) ?one (by unfold maxLen; omega) (by omega) ?bz ?_)
  case one => intro u hu; simp at hu; subst hu; rfl
  case bz => simp; omega
  intro v1 w1 hown1 hgrow1 _
  have hex : ∃ g cap, v1 = .slice (some ⟨g, 0, none⟩) (xs.length + 1) cap ∧ base ≤ g := by
    rcases hown1.2 with ⟨_, h0⟩ | ⟨g, cap, cur, hv, hg, _⟩
    · omega
    · exact ⟨g, cap, hv, hg⟩
  obtain ⟨g, cap, hv, hg⟩ := hex
  have hLw : L < w.heap.size := by omega
  have hnL : ∀ k, lv.ownBlock = some k → base ≤ k := fun k hk => (hown.lt k hk).1
  have hbl : ∀ k, k < base → w1.heap[k]? = w.heap[k]? := fun k hk => by
    rw [hgrow1.block k (by simp; omega) (fun e => by have := hnL k e.symm; omega)]
    exact Below.heap_alloc _ _ _ (by omega)
  have hl1 : w1.cell? ⟨L, 0, none⟩ = some lv := (World.cell?_of_block (hbl L hLb)).trans hl
  have fl1 : w1.frozen? ⟨L, 0, none⟩ = false := (World.frozen?_of_block (hbl L hLb)).trans fl
  have hsz : w.heap.size ≤ w1.heap.size := by have := hgrow1.size; simp at this; omega
  rw [hv] at hown1 ⊢
  have hwell : (Value.slice (some ⟨g, 0, none⟩) (xs.length + 1) cap).oneCell' = true := rfl
  have hend : ∀ w2, w2 = w1.setCell ⟨L, 0, none⟩ (.slice (some ⟨g, 0, none⟩) (xs.length + 1) cap) → But base L w w2 ∧ ∃ g cap, w2.cell? ⟨L, 0, none⟩ = some (.slice (some ⟨g, 0, none⟩) (xs.length + 1) cap) ∧ w2.frozen? ⟨L, 0, none⟩ = false ∧ w2.ownsRow base 3 1 (.slice (some ⟨g, 0, none⟩) (xs.length + 1) cap) (xs.length + 1) (logOf (xs ++ [j])) := by
    rintro w2 rfl
    refine ⟨⟨hgrow1.os, hgrow1.tape, hgrow1.output, by simpa [World.setCell] using hsz, fun k hk hne => (Below.heap_setCell _ _ _ _ hne).trans (hbl k hk)⟩, g, cap, World.cell?_setCell_same _ _ _ hl1, ?_, ?_⟩
    · rw [World.frozen?_setCell]; exact fl1
    · have := ownsRow_setCell_below hown1 (a := ⟨L, 0, none⟩) hLb (.slice (some ⟨g, 0, none⟩) (xs.length + 1) cap)
      simpa [logOf] using this
  clear hown1 hgrow1 hown hbl hnL hj hl fl
  go_wp2
  go_end0
  exact ⟨rfl, hend _ rfl⟩
end Go.Proofs.Ybulkdlku
