/-
  The walk over (*index).historyOf.
-/
import Derived.Test.YbulkdljsOrder
import Derived.Laws.IdiomStrings
namespace Go.Proofs.Ybulkdljs
open Go.RowKit

/-- A key's bytes in a row of their own. -/
def KeyAt (w : World) (kv : Value) (k : Nat) : Prop :=
  ∃ b cap, kv = .slice (some ⟨b, 0, none⟩) (keyS k).data.toList.length cap ∧ ∀ j (hj : j < (keyS k).data.toList.length), w.cell? ⟨b, j, none⟩ = some (.int .u8 ((keyS k).data.toList[j].toNat : Int))

theorem KeyAt.conv {w : World} {kv : Value} {k : Nat} (h : KeyAt w kv k) : (convert 65 9 kv).run Yba.prog w = .ok (.string (keyS k)) w := by
  obtain ⟨b, cap, rfl, hc⟩ := h
  have := run_convert_bytes_back (P := Yba.prog) w 65 9 5 ⟨b, 0, none⟩ cap (keyS k).data.toList Yba.underlying65 Yba.underlying5 Yba.underlying9 (fun j hj => by rw [Addr.add_lit, Nat.zero_add]; exact hc j hj)
  rw [this]

theorem MapIs.same {W w : World} {mb : Nat} {M : Nat → Option Nat} (h : MapIs W mb M) (hs : Same W w) : MapIs w mb M := by
  obtain ⟨D, ⟨es, clock, hb, F, r⟩, h2⟩ := h
  exact ⟨D, ⟨es, clock, by rw [hs.heap]; exact hb, F, r⟩, h2⟩

theorem Same.drewN (W : World) (n : Nat) : Same W (W.drewN n) := ⟨rfl, rfl, rfl, rfl⟩
theorem Same.drew (W : World) : Same W W.drew := ⟨rfl, rfl, rfl, rfl⟩

set_option maxRecDepth 100000 in
set_option maxHeartbeats 2000000 in
/-- The key has a history. -/
theorem historyOf_some (X mb k hb : Nat) (kv : Value) (M : Nat → Option Nat) (w : World) (hk : k < 5) (c0 : w.cell? ⟨X, 0, none⟩ = some (.map (some mb))) (hM : MapIs w mb M) (hMk : M k = some hb) (hkv : ∀ n, (convert 65 9 kv).run Yba.prog (w.drewN n) = .ok (.string (keyS k)) (w.drewN n)) :
    Calls Yba.prog 17 #[.pointer (some ⟨X, 0, none⟩), kv] w fun e w' => e = .returned (.pointer (some ⟨hb, 0, none⟩)) ∧ ∃ n, w' = w.drewN n := by
  have hl : ∀ n, (Instr.lookup 24 (.map (some mb)) (.string (keyS k)) false).run Yba.prog (w.drewN n) = .ok (.pointer (some ⟨hb, 0, none⟩)) (w.drewN n) := fun n => by
    have := (hM.same (Same.drewN w n)).look hk
    rw [hMk] at this
    exact this
  have h0 := hkv 0
  have h1 := hkv 1
  have l0 := hl 0
  have l1 := hl 1
  rw [World.drewN_zero] at h0 l0
  rw [← World.drew_is_drewN] at h1 l1
  replace hM := hid hM
  go_enter Yba.func17, Yba.ntmps17
  go_wp2
  go_quiet (fail)
  go_wp2
  go_ret
  exact ⟨rfl, _, rfl⟩

/-- What historyOf leaves where it adds a history. -/
def HRes (w : World) (ρ : Nat → Nat) (M : Nat → Option Nat) (X mb k : Nat) (XA : Array Value) (n : Nat) (e : Ending) (w' : World) : Prop :=
  ∃ ρ' n' ov' hb, e = .returned (.pointer (some ⟨hb, 0, none⟩)) ∧ n' ≤ n + 1 ∧ w.heap.size ≤ hb ∧ ρ' hb = 110 + k ∧ Fr (fun r => r = 100 ∨ r = 101 ∨ r = 104 ∨ r = 105) ρ ρ' w w' ∧ MapIs w' mb (setM M k hb) ∧
    objAt w' hb = some (.cells #[.string (keyS k), .slice none 0 0, .int .i64 0] 47 (0, 0)) ∧ objAt w' X = some (.cells (XA.setIfInBounds 1 ov') 36 (0, 0)) ∧ Ord w' ρ' (fun b => ∃ j, j < 5 ∧ setM M k hb j = some b) ov' n'

set_option maxRecDepth 100000 in
set_option maxHeartbeats 2000000 in
/-- The key has none. -/
theorem historyOf_none (ρ : Nat → Nat) (X mb k : Nat) (XA : Array Value) (ov : Value) (n : Nat) (kv : Value) (M : Nat → Option Nat) (w : World) (hk : k < 5) (hn : n ≤ 50) (hXo : objAt w X = some (.cells XA 36 (0, 0))) (hX0 : XA[0]? = some (.map (some mb))) (hX1 : XA[1]? = some ov) (hX4 : XA[4]? = some (.bool false))
    (hρ : ρ X = 100) (hρm : ρ mb = 101) (hO : Ord w ρ (fun b => ∃ j, j < 5 ∧ M j = some b) ov n) (hH : ∀ j b, j < 5 → M j = some b → ρ b = 110 + j ∧ ∃ s, w.cell? ⟨b, 0, none⟩ = some (.string s)) (hM : MapIs w mb M) (hMk : M k = none) (hkv : KeyAt w kv k) :
    Calls Yba.prog 17 #[.pointer (some ⟨X, 0, none⟩), kv] w (HRes w ρ M X mb k XA n) := by
  have hkc : ∀ w1, Below w.heap.size w w1 → (convert 65 9 kv).run Yba.prog w1 = .ok (.string (keyS k)) w1 := fun w1 hB => by
    obtain ⟨b, cap, e, hc⟩ := hkv
    exact KeyAt.conv ⟨b, cap, e, fun j hj => (hB.cell (World.block_lt_of_cell? _ _ (hc j hj))).trans (hc j hj)⟩
  have hl : ∀ n, (Instr.lookup 24 (.map (some mb)) (.string (keyS k)) false).run Yba.prog (w.drewN n) = .ok (.pointer none) (w.drewN n) := fun n => by
    have := (hM.same (Same.drewN w n)).look hk
    rw [hMk] at this
    exact this
  have h0 := hkc w (Below.refl _ _)
  have h1 := hkc w.drew (Below.refl _ _).drew
  have h2 : ∀ n, (convert 65 9 kv).run Yba.prog (w.drewN n) = .ok (.string (keyS k)) (w.drewN n) := fun n => hkc _ (belowDN (Below.refl _ _) n)
  have l0 := hl 0
  have l1 := hl 1
  rw [World.drewN_zero] at l0
  rw [← World.drew_is_drewN] at l1
  have hXl : X < w.heap.size := obj_lt hXo
  have c0 : w.cell? ⟨X, 0, none⟩ = some (.map (some mb)) := (obj_cell hXo 0).trans hX0
  have c4 : w.cell? ⟨X, 4, none⟩ = some (.bool false) := (obj_cell hXo 4).trans hX4
  have hXm : X ≠ mb := fun e => by rw [e] at hρ; omega
  have hmbl : mb < w.heap.size := hM.lt
  obtain ⟨W, hW⟩ : ∃ W, W = w.alloc (.cells #[.string (keyS k), .slice none 0 0, .int .i64 0] 47) := ⟨_, rfl⟩
  have FW : Fr (fun _ => False) ρ (upd ρ w.heap.size (110 + k)) w W := by rw [hW]; exact (Fr.refl _ ρ w).allocAs _ _
  have MW : MapIs W mb M := hM.fr FW (fun h => h)
  have oH : objAt W w.heap.size = some (.cells #[.string (keyS k), .slice none 0 0, .int .i64 0] 47 (0, 0)) := by rw [hW]; exact heapN _ _ _ rfl
  have oX : objAt W X = some (.cells XA 36 (0, 0)) := FW.obj hXo (fun h => h)
  replace hXo := hid hXo
  replace hM := hid hM
  replace hX0 := hid hX0
  replace hX1 := hid hX1
  replace hX4 := hid hX4
  replace hW := hid hW
  replace FW := hid FW
  replace MW := hid MW
  replace oH := hid oH
  replace oX := hid oX
  replace hH := hid hH
  replace hO := hid hO
  clear hkc hkv
  go_enter Yba.func17, Yba.ntmps17
  go_wp2
  go_quiet (fail)
  go_wp2
  rw [allocDN, ← hW]
  obtain ⟨w1, hput, hM1, hg1⟩ := MapIs.put (MapIs.same MW (Same.drewN W (nq + 1))) hk hMk (b := w.heap.size)
  have hg1' : W.grownBy w1 (some mb) := hg1.same (Same.drewN W (nq + 1))
  have e0 : W.cell? ⟨X, 0, none⟩ = some (.map (some mb)) := (obj_cell oX 0).trans hX0
  have e1 : W.cell? ⟨w.heap.size, 0, none⟩ = some (.string (keyS k)) := obj_cell oH 0
  have hHm : w.heap.size ≠ mb := by omega
  have hWH : w.heap.size < W.heap.size := obj_lt oH
  have hWX : X < W.heap.size := obj_lt oX
  have K0 : ∀ w', Same W w' → w'.cell? ⟨X, 0, none⟩ = some (.map (some mb)) ∧ w'.cell? ⟨w.heap.size, 0, none⟩ = some (.string (keyS k)) := fun w' h => ⟨(h.cell _).trans e0, (h.cell _).trans e1⟩
  have K1 : w1.cell? ⟨X, 0, none⟩ = some (.map (some mb)) ∧ w1.cell? ⟨w.heap.size, 0, none⟩ = some (.string (keyS k)) :=
    ⟨(hg1'.cell_far ⟨X, 0, none⟩ hWX (fun e => hXm (Option.some.inj e))).trans e0, (hg1'.cell_far ⟨w.heap.size, 0, none⟩ hWH (fun e => hHm (Option.some.inj e))).trans e1⟩
  have o1X : objAt w1 X = some (.cells XA 36 (0, 0)) := (hg1'.block X hWX (fun e => hXm (Option.some.inj e))).trans oX
  have o1H : objAt w1 w.heap.size = some (.cells #[.string (keyS k), .slice none 0 0, .int .i64 0] 47 (0, 0)) := (hg1'.block w.heap.size hWH (fun e => hHm (Option.some.inj e))).trans oH
  have hX4' : w1.cell? ⟨X, 4, none⟩ = some (.bool false) := (obj_cell o1X 4).trans hX4
  have FW' : Fr (fun _ => False) ρ (upd ρ w.heap.size (110 + k)) w W := FW
  have ρm : upd ρ w.heap.size (110 + k) mb = 101 := by rw [upd_other _ (Ne.symm hHm)]; exact hρm
  have F1 : Fr (fun r => r = 101) ρ (upd ρ w.heap.size (110 + k)) w w1 := (FW'.mono (fun _ h => h.elim)).trans ((Fr.refl _ _ W).grown hg1' (fun g e => by cases e; exact ρm))
  have ρX : upd ρ w.heap.size (110 + k) X = 100 := by rw [upd_other _ (by omega)]; exact hρ
  have hP1 : ∀ b, (∃ j, j < 5 ∧ M j = some b) → ∃ s, w1.cell? ⟨b, 0, none⟩ = some (.string s) := fun b ⟨j, hj, hb⟩ => by
    obtain ⟨hr, s, hs⟩ := hH j b hj hb
    exact ⟨s, F1.cell hs (by show ¬ (ρ b = 101); omega)⟩
  have sa := hid (sortedAdd_any (upd ρ w.heap.size (110 + k)) (fun b => ∃ j, j < 5 ∧ M j = some b) X XA ov n w.heap.size (keyS k) w1 hn o1X hX1 ρX (Ord.fr hO F1 (by omega) (by omega) (fun _ h => h)) hP1 K1.2)
  have fin : ∀ w2, ORes w1 (upd ρ w.heap.size (110 + k)) (fun b => ∃ j, j < 5 ∧ M j = some b) X XA n w.heap.size (.returned (.tuple #[])) w2 → HRes w ρ M X mb k XA n (.returned (.pointer (some ⟨w.heap.size, 0, none⟩))) w2 := fun w2 hq => by
    obtain ⟨ρ', n', ov', _, hn', hf, ho, hord⟩ := hq
    have hr : ρ' w.heap.size = 110 + k := (hf.role _ (obj_lt o1H)).trans (upd_same _ _ _)
    refine ⟨ρ', n', ov', w.heap.size, rfl, hn', Nat.le_refl _, hr, (F1.mono (fun r h => Or.inr (Or.inl h))).trans (hf.mono (fun r h => h.elim Or.inl (fun h => Or.inr (Or.inr h)))), hM1.fr hf (by rw [ρm]; omega), hf.obj o1H (by rw [upd_same]; omega), ho, hord.fr (Fr.refl (fun _ => False) _ _) (fun h => h) (fun h => h) (fun b hb => ?_)⟩
    rcases hb with ⟨j, hj, hb⟩ | hb
    · refine ⟨j, hj, ?_⟩
      unfold setM
      rw [if_neg (fun e => by rw [e, hMk] at hb; cases hb)]
      exact hb
    · exact ⟨k, hk, by simp [setM, hb]⟩
  replace hM1 := hid hM1
  replace hg1 := hid hg1
  replace hg1' := hid hg1'
  replace K0 := hid K0
  replace K1 := hid K1
  replace o1X := hid o1X
  replace o1H := hid o1H
  replace F1 := hid F1
  replace FW' := hid FW'
  replace hP1 := hid hP1
  replace fin := hid fin
  replace ρX := hid ρX
  replace ρm := hid ρm
  clear l0 l1 hl h0 h1 h2
  go_region_held3 (fun w' => w'.cell? ⟨X, 0, none⟩ = some (.map (some mb)) ∧ w'.cell? ⟨w.heap.size, 0, none⟩ = some (.string (keyS k)))
    (first | exact K1 | exact K0 _ ⟨rfl, rfl, rfl, rfl⟩) (fail)
  go_wp2_with (first | (go_at_call 19; refine Calls.mono sa ?_; intro e w2 hq; have he : e = .returned (.tuple #[]) := (by obtain ⟨_, _, _, h, _⟩ := hq; exact h); subst he; replace hq := hid hq))
  go_ret
  exact fin w2 hq
end Go.Proofs.Ybulkdljs
