/-
  The walks over revtree's leaves: zzs5621bkey, (change).deleted, (*history).live, (*history).change, zzs5621bsame.
-/
import Derived.Test.YbulkdljsWhole
import Derived.Deep.RegionHeld3
import Derived.Deep.QuietTactic
import Derived.BigQuiet
import Derived.BigRegion
import Derived.Deep.Light
namespace Go.Proofs.Ybulkdljs
open Go.RowKit

theorem key_any (k : Nat) (hk : k < 5) (w : World) : Calls Yba.prog 5 #[.int .i64 k] w fun e w' => e = .returned (.string (keyS k)) ∧ w' = w := by
  match k, hk with
  | 0, _ | 1, _ | 2, _ | 3, _ | 4, _ =>
    go_enter Yba.func5, Yba.ntmps5
    go_wp2
    go_ret
    exact ⟨rfl, rfl⟩

/-- A change as a value: its twenty-four cells. -/
abbrev chgA (m s c v a z u l : Int) : Array Value :=
  #[.int .i64 m, .int .i64 s, .int .i64 c, .int .i64 v, .int .i64 a, .int .u32 z, .int .u32 u,
    .int .u8 0, .int .u8 0, .int .u8 0, .int .u8 0, .int .u8 0, .int .u8 0, .int .u8 0, .int .u8 0, .int .u8 0, .int .u8 0, .int .u8 0, .int .u8 0, .int .u8 0, .int .u8 0, .int .u8 0, .int .u8 0, .int .i64 l]

theorem deleted_any (m s c v a z u l : Int) (w : World) :
    Calls Yba.prog 22 #[.agg (chgA m s c v a z u l)] w fun e w' => e = .returned (.bool (v == 0)) ∧ w' = w.alloc (.cells (chgA m s c v a z u l) 56) := by
  go_enter Yba.func22, Yba.ntmps22
  go_wp2
  go_ret
  exact ⟨rfl, rfl⟩

set_option maxHeartbeats 400000 in
/-- A history without changes is not live. -/
theorem live_none (hb : Nat) (ao : Option Addr) (cap : Nat) (w : World) (h : w.cell? ⟨hb, 1, none⟩ = some (.slice ao 0 cap)) :
    Calls Yba.prog 20 #[.pointer (some ⟨hb, 0, none⟩)] w fun e w' => e = .returned (.bool false) ∧ ∃ n, w' = w.drewN n := by
  go_enter Yba.func20, Yba.ntmps20
  go_wp2
  go_quiet (fail)
  go_wp2
  go_ret
  exact ⟨rfl, _, rfl⟩

attribute [local go_sem ↓] ld56_fold st56_fold

theorem deleted_of (c : Chg) (cs : List Value) (hc : cs = c.cells) (w : World) :
    Calls Yba.prog 22 #[.agg cs.toArray] w fun e w' => e = .returned (.bool (c.version == 0)) ∧ w' = w.alloc (.cells cs.toArray 56) := by
  subst hc
  exact deleted_any c.main c.sub c.create c.version c.addr c.size c.sum c.lease w

set_option maxRecDepth 100000 in
set_option maxHeartbeats 1000000 in
/-- A history with changes: live where the last one's version is not 0. -/
theorem live_some (hb g n cap : Nat) (c : Chg) (w : World) (hn : n ≤ 1048576) (h : w.cell? ⟨hb, 1, none⟩ = some (.slice (some ⟨g, 0, none⟩) (n + 1) cap))
    (hl : w.rangeAt g (n * 24) c.cells) :
    Calls Yba.prog 20 #[.pointer (some ⟨hb, 0, none⟩)] w fun e w' => e = .returned (.bool (!(c.version == 0))) ∧ w' = (w.alloc (.cells c.cells.toArray 56)).drew := by
  obtain ⟨cs, hcs⟩ : ∃ cs, cs = c.cells := ⟨_, rfl⟩
  rw [← hcs] at hl ⊢
  have hlen : cs.length = 24 := by rw [hcs]; rfl
  have hld : ∀ w' : World, w'.rangeAt g (n * 24) cs → (ldT 56 (.pointer (some ⟨g, n * 24, none⟩))).run Yba.prog w' = .ok (.agg cs.toArray) w' := fun w' h => ld56_mid h hlen
  have hcs' := hid hcs
  clear hcs
  have i1 : (0 : Int) < ((n + 1 : Nat) : Int) := by omega
  have i3 : (0 : Int) ≤ (n : Int) := by omega
  have i4 : IntKind.i64.wrap (n : Int) = (n : Int) := IntWalk.i64_in _ (by omega)
  have i5 : wrap64 (n : Int) = (n : Int) := IntWalk.wrap64_in _ (by omega)
  have i6 : (n : Int) < (n : Int) + 1 := by omega
  have hnot : ∀ (x : Bool) (w : World), (Op.unary .not (.bool x)).run Yba.prog w = .ok (.bool (!x)) w := fun _ _ => rfl
  have k0 : Hid ((fun w' : World => w'.cell? ⟨hb, 1, none⟩ = some (.slice (some ⟨g, 0, none⟩) (n + 1) cap) ∧ w'.rangeAt g (n * 24) cs) w) := ⟨h, hl⟩
  have k1 : Hid (∀ o : Obj, (fun w' : World => w'.cell? ⟨hb, 1, none⟩ = some (.slice (some ⟨g, 0, none⟩) (n + 1) cap) ∧ w'.rangeAt g (n * 24) cs) (w.alloc o)) := fun o =>
    ⟨by rw [World.cell?_alloc_past _ _ _ (World.block_lt_of_cell? _ _ h)]; exact h, World.rangeAt_alloc hl _⟩
  go_enter Yba.func20, Yba.ntmps20
  go_wp2
  go_region_held3 (fun w' => w'.cell? ⟨hb, 1, none⟩ = some (.slice (some ⟨g, 0, none⟩) (n + 1) cap) ∧ w'.rangeAt g (n * 24) cs) (first | exact k0 | exact k1 _)
    (first | (go_at_call 22; refine (deleted_of c cs hcs' _).mono ?_; rintro e w' ⟨rfl, rfl⟩))
  go_wp2
  go_ret
  exact ⟨rfl, rfl⟩
end Go.Proofs.Ybulkdljs
