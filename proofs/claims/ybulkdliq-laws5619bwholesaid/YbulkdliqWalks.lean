/-
  The walks over mutex.go's TryLock and zz_law_s5619b.go's LawS5619BWhole (one goroutine; sync/atomic by the guide's laws on the body-less entries).
-/
import Derived.Test.YbulkdliqRows
import Derived.WalkKit
import Derived.WalkSpells
import Derived.WalkLawsBesides
import Derived.ProofKit
import Derived.RowKit3
namespace Go.Proofs.Ybulkdliq
open Go.RowKit

/-! ### The plain laws: the low bit of an int32 -/
theorem ofInt32_toNat (a : Int) : (BitVec.ofInt 32 a).toNat = (a % 4294967296).toNat := by
  rw [BitVec.toNat_ofInt]; rfl
theorem i32_and1 (a : Int) : bits .and .i32 a 1 = a % 2 := by
  have h1 : (BitVec.ofInt 32 (1 : Int)).toNat = 1 := by decide
  show IntKind.i32.wrap ((BitVec.ofInt 32 a &&& BitVec.ofInt 32 1).toNat : Int) = _
  rw [BitVec.toNat_and, h1, ofInt32_toNat, nat_mask1, IntKind.wrap_i32]
  omega
theorem i32_or1 (a : Int) (h : a % 2 = 0) (h0 : -2147483648 ≤ a) (h1 : a ≤ 2147483647) : bits .or .i32 a 1 = a + 1 := by
  have h2 : (BitVec.ofInt 32 (1 : Int)).toNat = 1 := by decide
  show IntKind.i32.wrap ((BitVec.ofInt 32 a ||| BitVec.ofInt 32 1).toNat : Int) = _
  rw [BitVec.toNat_or, h2, ofInt32_toNat, nat_join 1 _ 1 (by omega) (by decide), IntKind.wrap_i32]
  omega

/-! ### sync/atomic's methods -/
theorem store_any (a : Addr) (y : Int) (u : Value) (w : World) (h0 : w.cell? a = some u) (f0 : w.frozen? a = false) :
    Calls Yba.prog 4 #[.pointer (some a), .int .i32 y] w fun e w' => e = .returned (.tuple #[]) ∧ w' = w.setCell a (.int .i32 y) := by
  have hst := run_call_store (P := Yba.prog) Yba.func8 (by kernel_rfl) (by kernel_rfl) (by kernel_rfl) (by kernel_rfl) (k := .i32) (y := y) h0 f0
  go_enter Yba.func4, Yba.ntmps4
  go_wp2
  go_end0
  exact ⟨rfl, rfl⟩

theorem load_any (a : Addr) (x : Int) (w : World) (h0 : w.cell? a = some (.int .i32 x)) :
    Calls Yba.prog 6 #[.pointer (some a)] w fun e w' => e = .returned (.int .i32 x) ∧ w' = w := by
  have hl := run_call_load (P := Yba.prog) Yba.func10 (by kernel_rfl) (by kernel_rfl) (by kernel_rfl) .i32 (by kernel_rfl) h0
  go_enter Yba.func6, Yba.ntmps6
  go_wp2
  go_ret
  exact ⟨rfl, rfl⟩

theorem held_no (a : Addr) (w : World) (h0 : w.cell? a = some (.int .u32 0)) :
    Calls Yba.prog 7 #[.pointer (some a)] w fun e w' => e = .returned (.bool false) ∧ w' = w := by
  have hl := run_call_load (P := Yba.prog) Yba.func11 (by kernel_rfl) (by kernel_rfl) (by kernel_rfl) .u32 (by kernel_rfl) h0
  go_enter Yba.func7, Yba.ntmps7
  go_wp2
  go_ret
  exact ⟨rfl, rfl⟩

theorem cas_hit (a : Addr) (x y : Int) (w : World) (h0 : w.cell? a = some (.int .i32 x)) (f0 : w.frozen? a = false) :
    Calls Yba.prog 9 #[.pointer (some a), .int .i32 x, .int .i32 y] w fun e w' => e = .returned (.bool true) ∧ w' = w.setCell a (.int .i32 y) := by
  have hc := run_call_cas_hit (P := Yba.prog) Yba.func12 (by kernel_rfl) (by kernel_rfl) (by kernel_rfl) .i32 (by kernel_rfl) (y := y) h0 f0
  go_enter Yba.func9, Yba.ntmps9
  go_wp2
  go_ret
  exact ⟨rfl, rfl⟩

/-! ### TryLock -/
set_option maxHeartbeats 400000 in
theorem try_held (b off : Nat) (x : Int) (w : World) (hx : ((x % 2 : Int) != 0) = true) (h0 : w.cell? ⟨b, off, none⟩ = some (.int .i32 x)) :
    Calls Yba.prog 5 #[.pointer (some ⟨b, off, none⟩)] w fun e w' => e = .returned (.bool false) ∧ w' = w := by
  have ha := i32_and1 x
  go_enter Yba.func5, Yba.ntmps5
  go_wp2
  refine wp_loop_rounds 1 ?_
  rw [rounds_succ]
  go_wp2_with (go_at_call 6; refine (load_any _ x _ h0).mono ?_; rintro e w' ⟨rfl, rfl⟩)
  go_ret
  exact ⟨rfl, rfl⟩

set_option maxHeartbeats 400000 in
theorem try_free (b off : Nat) (x : Int) (w : World) (hx : ((x % 2 : Int) != 0) = false) (h0 : w.cell? ⟨b, off, none⟩ = some (.int .i32 x)) (f0 : w.frozen? ⟨b, off, none⟩ = false)
    (ho : bits .or .i32 x 1 = x + 1) :
    Calls Yba.prog 5 #[.pointer (some ⟨b, off, none⟩)] w fun e w' => e = .returned (.bool true) ∧ w' = w.setCell ⟨b, off, none⟩ (.int .i32 (x + 1)) := by
  have ha := i32_and1 x
  go_enter Yba.func5, Yba.ntmps5
  go_wp2
  refine wp_loop_rounds 1 ?_
  rw [rounds_succ]
  go_wp2_with (first | (go_at_call 6; refine (load_any _ x _ h0).mono ?_; rintro e w' ⟨rfl, rfl⟩) | (go_at_call 9; refine (cas_hit _ x _ _ h0 f0).mono ?_; rintro e w' ⟨rfl, rfl⟩))
  go_ret
  exact ⟨rfl, rfl⟩

end Go.Proofs.Ybulkdliq
