/-
  The walks over newIndex and zzs5621bsame.
-/
import Derived.Test.YbulkdljsLeaf
namespace Go.Proofs.Ybulkdljs
open Go.RowKit

set_option maxRecDepth 100000 in
set_option maxHeartbeats 1000000 in
theorem same_any (m s c v a z u l : Int) (w : World) :
    Calls Yba.prog 9 #[.agg (chgA m s c v a z u l), .agg (chgA m s c v a z u l)] w fun e w' => e = .returned (.bool true) ∧ w' = (w.alloc (.cells (chgA m s c v a z u l) 56)).alloc (.cells (chgA m s c v a z u l) 56) := by
  go_enter Yba.func9, Yba.ntmps9
  go_wp2
  go_ret
  exact ⟨rfl, rfl⟩

theorem info36s : (Yba.prog.info? 36).map (·.size) = some 8 := by kernel_rfl
theorem res4 (tmps : Array Value) (w : World) (g : Nat) (t : TypeId) (cs : Array Value) (hp : tmps.getD 0 undef = .pointer (some ⟨g, 0, none⟩)) (hg : w.heap[g]? = some (.cells cs t (0, 0))) (hs : cs.size = 8) :
    (results Yba.f4 tmps).run Yba.prog w = .ok (.agg cs) w :=
  results_cell_row (ty := 36) rfl tmps w g t cs _ _ hp hg Yba.underlying36 rfl (by rw [hs]; exact info36s)

theorem newIndex_any (w : World) :
    Calls Yba.prog 4 #[] w fun e w' => e = .returned (.agg #[.map (some (w.heap.size + 1)), .pointer none, .slice none 0 0, .int .i64 0, .bool true, .slice none 0 0, .slice none 0 0, .slice none 0 0]) ∧ w' = (w.alloc (.cells #[.map (some (w.heap.size + 1)), .pointer none, .slice none 0 0, .int .i64 0, .bool true, .slice none 0 0, .slice none 0 0, .slice none 0 0] 36)).alloc (.map #[] 0) := by
  have hmm := @run_makeMap Yba.prog
  go_enter Yba.func4, Yba.ntmps4
  go_wp2
  refine bodyPost_ret_by (res4 _ _ _ _ _ (by rfl) (heapP _ _ _ (by simp) |>.trans (heapN _ _ _ (by simp))) (by rfl)) rfl ⟨rfl, rfl⟩
end Go.Proofs.Ybulkdljs
