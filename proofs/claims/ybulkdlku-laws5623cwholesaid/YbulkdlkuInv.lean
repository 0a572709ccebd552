/-
  What holds of memory at the rounds of the law's three loops: plain facts on worlds, no walk.
-/
import Derived.Test.YbulkdlkuCalls
namespace Go.Proofs.Ybulkdlku
open Go.RowKit

/-- A slot of the batch: the closure of that slot, or nil. -/
def fcell (c : Bool) (L J : Nat) : Value := if c then .func (.func 4) #[] #[.pointer (some ⟨L, 0, none⟩), .pointer (some ⟨J, 0, none⟩)] else .nilFunc
theorem fcell_true (L J : Nat) : fcell true L J = .func (.func 4) #[] #[.pointer (some ⟨L, 0, none⟩), .pointer (some ⟨J, 0, none⟩)] := rfl
theorem fcell_false (L J : Nat) : fcell false L J = .nilFunc := rfl
theorem fcell_ite (c : Bool) (L J J' : Nat) (h : c = true → J = J') : fcell c L J = fcell c L J' := by
  cases c
  · rfl
  · rw [h rfl]

/-- THE FIRST LOOP, at its k-th round: slots below k are laid. -/
structure Inv1 (w wr : World) (n k L F : Nat) (P : Nat → Bool) (J : Nat → Nat) : Prop where
  below : Below w.heap.size w wr
  ord : w.heap.size ≤ L ∧ L < F ∧ F < wr.heap.size
  hL : wr.cell? ⟨L, 0, none⟩ = some (.slice none 0 0)
  fL : wr.frozen? ⟨L, 0, none⟩ = false
  fs : ∀ j, j < n → wr.cell? ⟨F, j, none⟩ = some (fcell (decide (j < k) && P j) L (J j))
  ff : ∀ j, wr.frozen? ⟨F, j, none⟩ = false
  js : ∀ j, j < k → P j = true → F < J j ∧ J j < wr.heap.size ∧ wr.cell? ⟨J j, 0, none⟩ = some (.int .i64 j)

theorem Inv1.keep {w wr : World} {n k L F : Nat} {P : Nat → Bool} {J : Nat → Nat} (h : Inv1 w wr n k L F P J) (hk : P k = false) : Inv1 w wr n (k + 1) L F P J := by
  refine ⟨h.below, h.ord, h.hL, h.fL, fun j hj => ?_, h.ff, fun j hj hp => h.js j ?_ hp⟩
  · rw [h.fs j hj]
    congr 2
    by_cases e : j = k
    · subst e; simp [hk]
    · have : decide (j < k) = decide (j < k + 1) := by rw [decide_eq_decide]; omega
      rw [this]
  · rcases Nat.lt_succ_iff_lt_or_eq.1 hj with h1 | rfl
    · exact h1
    · rw [hk] at hp; cases hp

theorem Inv1.put {w wr : World} {n k L F : Nat} {P : Nat → Bool} {J : Nat → Nat} (h : Inv1 w wr n k L F P J) (hk : P k = true) (hkn : k < n) :
    Inv1 w ((wr.setCell ⟨F, k, none⟩ (.func (.func 4) #[] #[.pointer (some ⟨L, 0, none⟩), .pointer (some ⟨wr.heap.size, 0, none⟩)])).alloc (.cells #[.int .i64 k] 3)) n (k + 1) L F P (fun j => if j = k then wr.heap.size else J j) := by
  obtain ⟨o1, o2, o3⟩ := h.ord
  have hsz : (wr.setCell ⟨F, k, none⟩ (.func (.func 4) #[] #[.pointer (some ⟨L, 0, none⟩), .pointer (some ⟨wr.heap.size, 0, none⟩)])).heap.size = wr.heap.size := by simp [World.setCell]
  generalize hw1 : wr.setCell ⟨F, k, none⟩ (.func (.func 4) #[] #[.pointer (some ⟨L, 0, none⟩), .pointer (some ⟨wr.heap.size, 0, none⟩)]) = w1 at *
  have old : ∀ b o, b < wr.heap.size → (w1.alloc (.cells #[.int .i64 k] 3)).cell? ⟨b, o, none⟩ = w1.cell? ⟨b, o, none⟩ := fun b o hb => World.cell?_alloc_past _ _ _ (by simpa [hsz] using hb)
  have oldf : ∀ b o, b < wr.heap.size → (w1.alloc (.cells #[.int .i64 k] 3)).frozen? ⟨b, o, none⟩ = wr.frozen? ⟨b, o, none⟩ := fun b o hb => by
    rw [World.frozen?_alloc_past _ _ _ (by simpa [hsz] using hb), ← hw1, World.frozen?_setCell]
  refine ⟨?_, ⟨o1, o2, by simp [hsz]; omega⟩, ?_, ?_, fun j hj => ?_, fun j => ?_, fun j hj hp => ?_⟩
  · refine Below.alloc ?_ (by rw [hsz]; omega) _
    rw [← hw1]; exact h.below.setCell (by simp; omega) _
  · rw [old _ _ (by omega), ← hw1, World.cell?_setCell_other _ _ _ _ (by simp)]; exact h.hL
  · rw [oldf _ _ (by omega)]; exact h.fL
  · rw [old _ _ (by omega), ← hw1]
    by_cases e : j = k
    · subst e
      rw [World.cell?_setCell_same _ _ _ (h.fs j hj)]
      simp [hk, fcell]
    · rw [World.cell?_setCell_other _ _ _ _ (by simp), h.fs j hj]
      have : decide (j < k) = decide (j < k + 1) := by rw [decide_eq_decide]; omega
      rw [this]; simp [e]
  · rw [oldf _ _ (by omega)]; exact h.ff j
  · by_cases e : j = k
    · subst e
      refine ⟨by simp; omega, by simp [hsz], ?_⟩
      simp only [if_true]
      rw [← hsz]
      simp
    · obtain ⟨a, b, c⟩ := h.js j (by omega) hp
      simp only [e, if_false]
      refine ⟨a, by simp [hsz]; omega, ?_⟩
      rw [old _ _ b, ← hw1, World.cell?_setCell_other _ _ _ _ (by simp)]; exact c

/-- THE SECOND AND THE THIRD LOOP: tk: which slots were claimed; m: the counter; xs: the log. -/
structure Inv2 (w wr : World) (n L F B T base : Nat) (P tk : Nat → Bool) (J : Nat → Nat) (m : Int) (xs : List Int) : Prop where
  below : Below w.heap.size w wr
  ord : w.heap.size ≤ L ∧ L < F ∧ F < B ∧ B < T ∧ T < base ∧ base ≤ wr.heap.size
  log : ∃ ao cap, wr.cell? ⟨L, 0, none⟩ = some (.slice ao xs.length cap) ∧ wr.ownsRow base 3 1 (.slice ao xs.length cap) xs.length (logOf xs)
  fL : wr.frozen? ⟨L, 0, none⟩ = false
  fs : ∀ j, j < n → wr.cell? ⟨F, j, none⟩ = some (fcell (P j && !tk j) L (J j))
  ff : ∀ j, wr.frozen? ⟨F, j, none⟩ = false
  ts : ∀ j, j < n → wr.cell? ⟨T, j, none⟩ = some (.bool (tk j))
  ft : ∀ j, wr.frozen? ⟨T, j, none⟩ = false
  b0 : wr.cell? ⟨B, 0, none⟩ = some (.slice (some ⟨F, 0, none⟩) n n)
  b1 : wr.cell? ⟨B, 1, none⟩ = some (.int .i64 m)
  fb : wr.frozen? ⟨B, 1, none⟩ = false
  js : ∀ j, j < n → P j = true → F < J j ∧ J j < B ∧ wr.cell? ⟨J j, 0, none⟩ = some (.int .i64 j)

section
variable {w wr : World} {n L F B T base : Nat} {P tk : Nat → Bool} {J : Nat → Nat} {m : Int} {xs : List Int}

/-- The counter moved on. -/
theorem Inv2.step (h : Inv2 w wr n L F B T base P tk J m xs) (s : Int) : Inv2 w (wr.setCell ⟨B, 1, none⟩ (.int .i64 s)) n L F B T base P tk J s xs := by
  obtain ⟨o1, o2, o3, o4, o5, o6⟩ := h.ord
  obtain ⟨ao, cap, hl, hown⟩ := h.log
  refine ⟨h.below.setCell (by simp; omega) _, ⟨o1, o2, o3, o4, o5, by simpa [World.setCell] using o6⟩, ⟨ao, cap, ?_, ownsRow_setCell_below hown (by simp; omega) _⟩, by rw [World.frozen?_setCell]; exact h.fL,
    fun j hj => ?_, fun j => by rw [World.frozen?_setCell]; exact h.ff j, fun j hj => ?_, fun j => by rw [World.frozen?_setCell]; exact h.ft j, ?_, World.cell?_setCell_same _ _ _ h.b1, by rw [World.frozen?_setCell]; exact h.fb, fun j hj hp => ?_⟩
  · rw [World.cell?_setCell_other _ _ _ _ (by simp)]; exact hl
  · rw [World.cell?_setCell_other _ _ _ _ (by simp)]; exact h.fs j hj
  · rw [World.cell?_setCell_other _ _ _ _ (by simp)]; exact h.ts j hj
  · rw [World.cell?_setCell_other _ _ _ _ (by simp)]; exact h.b0
  · obtain ⟨a, b, c⟩ := h.js j hj hp
    refine ⟨a, b, ?_⟩
    rw [World.cell?_setCell_other _ _ _ _ (by simp)]; exact c

/-- Slot i is claimed: emptied in the batch, marked in 'taken'. -/
theorem Inv2.claim (h : Inv2 w wr n L F B T base P tk J m xs) (i : Nat) (hi : i < n) (s : Int) :
    Inv2 w (((wr.setCell ⟨B, 1, none⟩ (.int .i64 s)).setCell ⟨F, i, none⟩ .nilFunc).setCell ⟨T, i, none⟩ (.bool true)) n L F B T base P (fun j => if j = i then true else tk j) J s xs := by
  have h' := h.step s
  generalize wr.setCell ⟨B, 1, none⟩ (.int .i64 s) = w1 at h'
  obtain ⟨o1, o2, o3, o4, o5, o6⟩ := h'.ord
  obtain ⟨ao, cap, hl, hown⟩ := h'.log
  have oth : ∀ b o, b ≠ F → b ≠ T → ((w1.setCell ⟨F, i, none⟩ .nilFunc).setCell ⟨T, i, none⟩ (.bool true)).cell? ⟨b, o, none⟩ = w1.cell? ⟨b, o, none⟩ := fun b o h1 h2 => by
    rw [World.cell?_setCell_other _ _ _ _ (by simp), World.cell?_setCell_other _ _ _ _ (by simp)]
  refine ⟨(h'.below.setCell (by simp; omega) _).setCell (by simp; omega) _, ⟨o1, o2, o3, o4, o5, by simpa [World.setCell] using o6⟩, ⟨ao, cap, ?_, ownsRow_setCell_below (ownsRow_setCell_below hown (by simp; omega) _) (by simp; omega) _⟩,
    by rw [World.frozen?_setCell, World.frozen?_setCell]; exact h'.fL, fun j hj => ?_, fun j => by rw [World.frozen?_setCell, World.frozen?_setCell]; exact h'.ff j, fun j hj => ?_, fun j => by rw [World.frozen?_setCell, World.frozen?_setCell]; exact h'.ft j,
    ?_, ?_, by rw [World.frozen?_setCell, World.frozen?_setCell]; exact h'.fb, fun j hj hp => ?_⟩
  · rw [oth _ _ (by omega) (by omega)]; exact hl
  · rw [World.cell?_setCell_other _ _ _ _ (by simp)]
    by_cases e : j = i
    · subst e
      rw [World.cell?_setCell_same _ _ _ (h'.fs j hj)]
      simp [fcell]
    · rw [World.cell?_setCell_other _ _ _ _ (by simp), h'.fs j hj]
      simp [e]
  · by_cases e : j = i
    · subst e
      have h0 : (w1.setCell ⟨F, j, none⟩ .nilFunc).cell? ⟨T, j, none⟩ = some (.bool (tk j)) := by
        rw [World.cell?_setCell_other _ _ _ _ (by simp)]; exact h'.ts j hj
      rw [World.cell?_setCell_same _ _ _ h0]
      simp
    · rw [World.cell?_setCell_other _ _ _ _ (by simp), World.cell?_setCell_other _ _ _ _ (by simp), h'.ts j hj]
      simp [e]
  · rw [oth _ _ (by omega) (by omega)]; exact h'.b0
  · rw [oth _ _ (by omega) (by omega)]; exact h'.b1
  · obtain ⟨a, b, c⟩ := h'.js j hj hp
    refine ⟨a, b, ?_⟩
    rw [oth _ _ (by omega) (by omega)]; exact c

/-- The closure of a slot has been called: the log is one longer. -/
theorem Inv2.note (h : Inv2 w wr n L F B T base P tk J m xs) {w' : World} {x : Int} (hb : But base L wr w')
    (hl : ∃ g cap, w'.cell? ⟨L, 0, none⟩ = some (.slice (some ⟨g, 0, none⟩) (xs.length + 1) cap) ∧ w'.frozen? ⟨L, 0, none⟩ = false ∧ w'.ownsRow base 3 1 (.slice (some ⟨g, 0, none⟩) (xs.length + 1) cap) (xs.length + 1) (logOf (xs ++ [x]))) :
    Inv2 w w' n L F B T base P tk J m (xs ++ [x]) := by
  obtain ⟨o1, o2, o3, o4, o5, o6⟩ := h.ord
  obtain ⟨g, cap, l1, l2, l3⟩ := hl
  have hs := hb.size
  have e : (xs ++ [x]).length = xs.length + 1 := by simp
  refine ⟨hb.below h.below (by omega) o1, ⟨o1, o2, o3, o4, o5, by omega⟩, ⟨some ⟨g, 0, none⟩, cap, by rw [e]; exact l1, by rw [e]; exact l3⟩, l2, fun j hj => ?_, fun j => ?_, fun j hj => ?_, fun j => ?_, ?_, ?_, ?_, fun j hj hp => ?_⟩
  · rw [hb.cell (by simp; omega) (by simp; omega)]; exact h.fs j hj
  · rw [hb.frozen (by simp; omega) (by simp; omega)]; exact h.ff j
  · rw [hb.cell (by simp; omega) (by simp; omega)]; exact h.ts j hj
  · rw [hb.frozen (by simp; omega) (by simp; omega)]; exact h.ft j
  · rw [hb.cell (by simp; omega) (by simp; omega)]; exact h.b0
  · rw [hb.cell (by simp; omega) (by simp; omega)]; exact h.b1
  · rw [hb.frozen (by simp; omega) (by simp; omega)]; exact h.fb
  · obtain ⟨a, b, c⟩ := h.js j hj hp
    refine ⟨a, b, ?_⟩
    rw [hb.cell (by simp; omega) (by simp; omega)]; exact c

end

/-- FROM THE FIRST LOOP TO THE SECOND: the batch is boxed, its counter set, 'taken' made. -/
theorem Inv2.start {w wr w3 : World} {n L F : Nat} {P : Nat → Bool} {J : Nat → Nat} {s : Int} {x : Value} (h : Inv1 w wr n n L F P J)
    (hg : (wr.alloc (.cells #[.slice (some ⟨F, 0, none⟩) n n, .int .i64 s, x] 36)).grownBy w3 none)
    (hT : ∀ j, j < n → w3.cell? ⟨wr.heap.size + 1, j, none⟩ = some (.bool false)) (hTf : ∀ j, w3.frozen? ⟨wr.heap.size + 1, j, none⟩ = false) (hTs : wr.heap.size + 1 < w3.heap.size) :
    Inv2 w w3 n L F wr.heap.size (wr.heap.size + 1) w3.heap.size P (fun _ => false) J s [] := by
  obtain ⟨o1, o2, o3⟩ := h.ord
  have hbl : ∀ k, k < wr.heap.size → w3.heap[k]? = wr.heap[k]? := fun k hk => by
    rw [hg.block k (by simp; omega) (by simp)]
    exact Below.heap_alloc _ _ _ hk
  have cel : ∀ b o, b < wr.heap.size → w3.cell? ⟨b, o, none⟩ = wr.cell? ⟨b, o, none⟩ := fun b o hb => World.cell?_of_block (hbl b hb)
  have fro : ∀ b o, b < wr.heap.size → w3.frozen? ⟨b, o, none⟩ = wr.frozen? ⟨b, o, none⟩ := fun b o hb => World.frozen?_of_block (hbl b hb)
  have celB : ∀ o, w3.cell? ⟨wr.heap.size, o, none⟩ = (wr.alloc (.cells #[.slice (some ⟨F, 0, none⟩) n n, .int .i64 s, x] 36)).cell? ⟨wr.heap.size, o, none⟩ := fun o => World.cell?_of_block (hg.block _ (by simp) (by simp))
  have froB : ∀ o, w3.frozen? ⟨wr.heap.size, o, none⟩ = (wr.alloc (.cells #[.slice (some ⟨F, 0, none⟩) n n, .int .i64 s, x] 36)).frozen? ⟨wr.heap.size, o, none⟩ := fun o => World.frozen?_of_block (hg.block _ (by simp) (by simp))
  refine ⟨?_, ⟨o1, o2, o3, by omega, by omega, Nat.le_refl _⟩, ⟨none, 0, ?_, World.ownsRow_nil _ _ _ _⟩, ?_, fun j hj => ?_, fun j => ?_, hT, hTf, ?_, ?_, ?_, fun j hj hp => ?_⟩
  · exact (h.below.alloc (by omega) _).grown hg (by simp; omega) (by intro k hk; cases hk)
  · rw [cel _ _ (by omega)]; exact h.hL
  · rw [fro _ _ (by omega)]; exact h.fL
  · rw [cel _ _ (by omega), h.fs j hj]; simp [hj]
  · rw [fro _ _ (by omega)]; exact h.ff j
  · rw [celB]; simp
  · rw [celB]; simp
  · rw [froB]; simp
  · obtain ⟨a, b, c⟩ := h.js j hj hp
    exact ⟨a, b, by rw [cel _ _ b]; exact c⟩

end Go.Proofs.Ybulkdlku
