/-
  The walk over slices.Insert at []*history, one element, in another block than the slice's.
-/
import Derived.Test.YbulkdljsTline
import Derived.Shelf.Spec.SlicesInsertGrow
import Derived.Deep.RegionLaw
namespace Go.Proofs.Ybulkdljs
open Go.RowKit

theorem info45 : (Yba.prog.info? 45).map (fun i => (i.zero, i.size, i.bytes)) = some (some (.pointer none), 1, 8) := by kernel_rfl
theorem size45 : (Yba.prog.info? 45).map (·.size) = some 1 := by kernel_rfl
theorem sizeOf45 (w : World) : (Go.sizeOf 45).run Yba.prog w = .ok 1 w := by kernel_rfl

/-- What Insert leaves. -/
def IRes (w : World) (sv : Value) (n i : Nat) (x : Value) (xs : List Value) (e : Ending) (w' : World) : Prop :=
  ∃ g cap, e = .returned (.slice (some ⟨g, 0, none⟩) (n + 1) cap) ∧ w'.ownsRow 0 45 1 (.slice (some ⟨g, 0, none⟩) (n + 1) cap) (n + 1) (xs.take i ++ x :: xs.drop i) ∧ w.grownBy w' sv.ownBlock ∧ (sv.ownBlock = some g ∨ w.heap.size ≤ g) ∧ g < w'.heap.size

set_option maxRecDepth 100000 in
set_option maxHeartbeats 2000000 in
/-- At the end. -/
theorem insert_end (ao : Option Addr) (n cap vb : Nat) (x : Value) (xs : List Value) (w : World) (hn : n ≤ 1000) (hown : w.ownsRow 0 45 1 (.slice ao n cap) n xs) (hv : objAt w vb = some (.cells #[x] 45 (0, 0))) (h1 : x.oneCell' = true) :
    Calls Yba.prog 24 #[.slice ao n cap, .int .i64 n, .slice (some ⟨vb, 0, none⟩) 1 1] w (IRes w (.slice ao n cap) n n x xs) := by
  obtain ⟨i0, hi, hz0, hz1, hz2⟩ := info_parts info45
  have hl : xs.length = n := by have := hown.1; omega
  have hcap : n ≤ cap := by
    rcases hown.2 with ⟨h, _⟩ | ⟨g, c, cur, h, _, _, h2, _⟩
    · cases h; omega
    · cases h; exact h2
  have q1 : n + 1 ≤ maxLen := by unfold maxLen; omega
  have q2 : (n + 1) * 8 ≤ 140737488355328 := by omega
  have k1 : (0 : Int) ≤ (n : Int) := by omega
  replace hown := hid hown
  replace hv := hid hv
  by_cases hcn : cap = n
  · subst hcn
    go_enter Yba.func24, Yba.ntmps24
    go_wp2_with (at_builtin; refine wpList_append_lies _ (by rfl) (.tmp 23) (.tmp 24) 31 (by rfl) 0 45 i0 (.pointer none) 1 8 Yba.underlying31 hi hz0 hz1 hz2 rfl (by decide) (.slice ao cap cap) cap xs (by rfl) hown ⟨vb, 0, none⟩ 1 1 [x] (by rfl) (by rfl) ?news ?one (by decide) q1 q2 (Nat.zero_le _) w.heap.size rfl ?_)
    case news => exact World.news_of_block hv
    case one => intro u hu; simp at hu; subst hu; exact h1
    intro g cap1 w1 hown1 hgr hat hlt1
    go_wp2
    go_ret
    refine ⟨g, cap1, rfl, ?_, hgr, hat.imp id (fun e => by omega), hlt1⟩
    rw [List.take_of_length_le (by omega), List.drop_of_length_le (by omega)]
    exact hown1
  · go_enter Yba.func24, Yba.ntmps24
    go_wp2_with (at_builtin; refine wpList_append_lies _ (by rfl) (.tmp 23) (.tmp 24) 31 (by rfl) 0 45 i0 (.pointer none) 1 8 Yba.underlying31 hi hz0 hz1 hz2 rfl (by decide) (.slice ao n cap) n xs (by rfl) hown ⟨vb, 0, none⟩ 1 1 [x] (by rfl) (by rfl) ?news ?one (by decide) q1 q2 (Nat.zero_le _) w.heap.size rfl ?_)
    case news => exact World.news_of_block hv
    case one => intro u hu; simp at hu; subst hu; exact h1
    intro g cap1 w1 hown1 hgr hat hlt1
    go_wp2
    go_ret
    refine ⟨g, cap1, rfl, ?_, hgr, hat.imp id (fun e => by omega), hlt1⟩
    rw [List.take_of_length_le (by omega), List.drop_of_length_le (by omega)]
    exact hown1

theorem shape_obj {w : World} {b : Nat} {cs : Array Value} {t : TypeId} {fr : Nat × Nat} (h : objAt w b = some (.cells cs t fr)) : w.shape? b = some (t, cs.size) := by
  unfold objAt at h
  simp [World.shape?, h]

set_option maxRecDepth 100000 in
set_option maxHeartbeats 4000000 in
/-- There is room, i < len(s): in place. -/
theorem insert_shift (g n cap i vb : Nat) (cur : Array Value) (x : Value) (w : World) (hi : i < n) (hn : n ≤ 1000) (hroom : n + 1 ≤ cap) (hg : objAt w g = some (.cells cur 45 (0, 0))) (hcur : cur.size = cap)
    (hone : ∀ v ∈ cur.toList.take n, v.oneCell' = true) (hv : objAt w vb = some (.cells #[x] 45 (0, 0))) (hvb : vb ≠ g) (h1 : x.oneCell' = true) :
    Calls Yba.prog 24 #[.slice (some ⟨g, 0, none⟩) n cap, .int .i64 i, .slice (some ⟨vb, 0, none⟩) 1 1] w fun e w' =>
      e = .returned (.slice (some ⟨g, 0, none⟩) (n + 1) cap) ∧ w' = (w.drew.setCells g (i + 1) ((cur.toList.take n).drop i)).setCells g i [x] := by
  obtain ⟨cs, hcs⟩ : ∃ cs, cs = cur.toList.take n := ⟨_, rfl⟩
  rw [← hcs] at hone ⊢
  have hcl : cs.length = n := by rw [hcs]; simp; omega
  have hcc : ∀ j v, cs[j]? = some v → w.cell? ⟨g, j, none⟩ = some v := fun j v hj => by
    rw [obj_cell hg]
    rw [hcs, List.getElem?_take] at hj
    split at hj
    · simpa using hj
    · cases hj
  have hsp : ∀ j, j < n + 1 → (w.cell? ⟨g, j, none⟩).isSome = true := fun j hj => by rw [obj_cell hg]; simp; omega
  have hfz : ∀ j, w.frozen? ⟨g, j, none⟩ = false := fun j => obj_frozen hg j
  have hvs : ∀ j v, [x][j]? = some v → w.cell? ⟨vb, j, none⟩ = some v := fun j v hj => by rw [obj_cell hv]; simpa using hj
  have hov : ∀ lb cb, (callFunc 30 #[.slice (some ⟨vb, 0, none⟩) 1 1, .slice (some ⟨g, i + 1, none⟩) lb cb]).run Yba.prog w = .ok (.value (.bool false)) w := fun lb cb => by
    rw [run_callFunc_extern Yba.func30 (by kernel_rfl) (by kernel_rfl) (by kernel_rfl) (e := Extern.SlicesOverlaps.overlaps #[31, 31] #[4]) (by kernel_rfl),
      Lib.run_overlaps_apart w 31 4 45 Yba.underlying31 1 sizeOf45 ⟨vb, 0, none⟩ ⟨g, i + 1, none⟩ 1 1 lb cb hvb 45 45 1 cap (by simpa using shape_obj hv) (by rw [shape_obj hg, hcur]) (by omega) (obj_frozen hv 0) (obj_frozen hv 1)]
    rfl
  have hdl : (cs.drop i).length = n - i := by rw [List.length_drop, hcl]
  have hz2 : ¬ ((i : Int) = (n : Int)) := by omega
  have hb1 : (0 : Int) ≤ (i : Int) + 1 := by omega
  have hb0 : (0 : Int) ≤ (i : Int) := by omega
  have hin : (i : Int) ≤ (n : Int) := by omega
  have htn : ((i : Int) + 1).toNat = i + 1 := by omega
  have hb2 : ¬ (cap = i + 1) := by omega
  have hb3 : (i : Int) ≤ (n : Int) + 1 := by omega
  have hb4 : ¬ (cap = i) := by omega
  have hb5 : (n : Int) + 1 ≤ (cap : Int) := by omega
  have hb6 : (i : Int) + 1 ≤ (n : Int) + 1 := by omega
  have hb7 : ¬ ((cap : Int) < (n : Int) + 1) := by omega
  have hcp1 : ∀ ty dc sc, (Builtin.copy_ #[31, 31] ty #[.slice (some ⟨g, i + 1, none⟩) (n - i) dc, .slice (some ⟨g, i, none⟩) (n + 1 - i) sc]).run Yba.prog w.drew = .ok (goInt (cs.drop i).length) (w.drew.setCells g (i + 1) (cs.drop i)) := fun ty dc sc =>
    run_copy_cells w.drew _ _ ty 45 g (i + 1) (n - i) dc ⟨g, i, none⟩ (n + 1 - i) sc (cs.drop i) Yba.underlying31 size45 (by rw [hdl]; simp only [Nat.min_def]; split <;> omega)
      (fun j v hj => by rw [Addr.add_lit]; exact hcc (i + j) v (by rwa [List.getElem?_drop] at hj))
      (fun j hj => hsp _ (by omega)) (fun j hj => hfz _) (fun v hv => hone v (List.mem_of_mem_drop hv))
  obtain ⟨W1, hW1⟩ : ∃ W1, W1 = w.drew.setCells g (i + 1) (cs.drop i) := ⟨_, rfl⟩
  have hsp1 : ∀ k, k < n + 1 → (W1.cell? ⟨g, k, none⟩).isSome = true := fun k hk => by
    rw [hW1]
    exact isSome_setCells g (cs.drop i) (i + 1) w.drew (fun j hj => hsp (i + 1 + j) (by rw [hdl] at hj; omega)) k (hsp k hk)
  have hcp2 : ∀ ty dc, (Builtin.copy_ #[31, 31] ty #[.slice (some ⟨g, i, none⟩) (n + 1 - i) dc, .slice (some ⟨vb, 0, none⟩) 1 1]).run Yba.prog W1 = .ok (goInt [x].length) (W1.setCells g i [x]) := fun ty dc =>
    run_copy_cells W1 _ _ ty 45 g i (n + 1 - i) dc ⟨vb, 0, none⟩ 1 1 [x] Yba.underlying31 size45 (by simp only [Nat.min_def, List.length_cons, List.length_nil]; split <;> omega)
      (fun j v hj => by
        rw [Addr.add_lit, hW1, World.cell?_setCells_out g _ _ _ _ (fun h _ => absurd h hvb), Nat.zero_add]
        exact hvs j v hj)
      (fun j hj => hsp1 _ (by simp at hj; omega)) (fun j hj => by rw [hW1, World.frozen?_setCells]; exact hfz _) (by intro v hv; simp at hv; subst hv; exact h1)
  rw [← hW1] at hcp1
  clear hcc hsp hfz hvs hsp1
  replace hg := hid hg
  replace hv := hid hv
  replace hcs := hid hcs
  replace hcl := hid hcl
  replace hdl := hid hdl
  replace hW1 := hid hW1
  go_enter Yba.func24, Yba.ntmps24
  go_wp2_with (simp only [hov])
  have hw1 : IntKind.i64.wrap ((i : Int) + 1) = (i : Int) + 1 := (wr64 _ (by omega) (by omega)).1
  go_region
  go_wp2_with (at_builtin; refine wpList_copy_runI _ rfl _ _ 31 31 rfl _ _ rfl rfl (hcp2 _ _) ?_)
  go_ret
  exact ⟨rfl, by rw [hW1]⟩

set_option maxRecDepth 100000 in
set_option maxHeartbeats 4000000 in
/-- There is no room, i < len(s): a new row. -/
theorem insert_grow (g n cap i vb : Nat) (cs : List Value) (x : Value) (w : World) (hi : i < n) (hn : n ≤ 1000) (hnc : n ≤ cap) (hroom : cap < n + 1) (hcl : cs.length = n) (hcc : ∀ j v, cs[j]? = some v → w.cell? ⟨g, j, none⟩ = some v)
    (hone : ∀ v ∈ cs, v.oneCell' = true) (hv : objAt w vb = some (.cells #[x] 45 (0, 0))) (h1 : x.oneCell' = true) :
    Calls Yba.prog 24 #[.slice (some ⟨g, 0, none⟩) n cap, .int .i64 i, .slice (some ⟨vb, 0, none⟩) 1 1] w fun e w' =>
      ∃ (G : Nat) (ROW : Array Value) (W1 : World), e = .returned (.slice (some ⟨w.heap.size, 0, none⟩) (n + 1) G) ∧ W1 = w.alloc (.cells ROW 45) ∧ ROW.size = G ∧ n + 1 ≤ G ∧ G ≤ maxLen ∧ (∀ j, j < i → ROW[j]? = cs[j]?) ∧
        Same ((W1.setCells w.heap.size i [x]).setCells w.heap.size (i + 1) (cs.drop i)) w' := by
  obtain ⟨i0, hi0, hz0, hzs, hzb⟩ := info_parts info45
  have hz2 : ¬ ((i : Int) = (n : Int)) := by omega
  have hz3 : (cap : Int) < (n : Int) + 1 := by omega
  have hgw : g < w.heap.size := World.block_lt_of_cell? _ _ (hcc 0 _ (List.getElem?_eq_getElem (by omega)))
  have hvw : vb < w.heap.size := obj_lt hv
  have hvs : ∀ j v, [x][j]? = some v → w.cell? ⟨vb, j, none⟩ = some v := fun j v hj => by rw [obj_cell hv]; simpa using hj
  have hkk : (n : Int) + 1 - (i : Int) = ((n + 1 - i : Nat) : Int) := by omega
  have hik : i + (n + 1 - i) = n + 1 := by omega
  have hold : (Builtin.firstCells i0.size i (.slice (some ⟨g, 0, none⟩) i cap)).run Yba.prog w.drew = .ok (cs.take i).toArray w.drew := by
    rw [hzs]
    exact run_firstCells_some w.drew 1 i ⟨g, 0, none⟩ i cap (cs.take i) (by rw [List.length_take]; omega) (fun j v hj => by
      rw [Addr.add_lit, Nat.zero_add]
      rw [List.getElem?_take] at hj
      split at hj
      · exact hcc j v hj
      · cases hj)
  have hrz : ∀ ty, (Builtin.append_ #[31, 3] ty #[.slice (some ⟨g, 0, none⟩) i cap, .int .i64 ((n : Int) + 1 - (i : Int))]).run Yba.prog w =
      .ok (.slice (some ⟨w.heap.size, 0, none⟩) (n + 1) (grownCap w (n + 1) cap 45)) (w.drew.alloc (.cells ((cs.take i).toArray ++ Builtin.zeroCells (Value.pointer none).cells (n + 1 - i) ++ Builtin.zeroCells (Value.pointer none).cells (grownCap w (n + 1) cap 45 - (n + 1))) 45)) := fun ty => by
    have h := Lib.run_append_grow_zeros w 31 3 ty 45 i0 _ .i64 .i64 Yba.underlying31 Yba.underlying3 hi0 hz0 (some ⟨g, 0, none⟩) i cap (cs.take i) hold (n + 1 - i) (by omega) (by omega) (by omega) (by omega) (by rw [hzb]; omega) (by rw [hzb, hik]; exact growslice_fits hroom (by omega))
    rw [hik] at h
    rw [hkk]
    exact h
  obtain ⟨G, hG⟩ : ∃ G, G = grownCap w (n + 1) cap 45 := ⟨_, rfl⟩
  obtain ⟨ROW, hROW⟩ : ∃ ROW : Array Value, ROW = (cs.take i).toArray ++ Builtin.zeroCells (Value.pointer none).cells (n + 1 - i) ++ Builtin.zeroCells (Value.pointer none).cells (G - (n + 1)) := ⟨_, rfl⟩
  rw [← hG, ← hROW] at hrz
  have hGn : n + 1 ≤ G := by rw [hG]; exact grownCap_ge w _ _ _
  have hGm : G ≤ maxLen := by rw [hG]; exact grownCap_le_maxLen w _ _ _ (by unfold maxLen; omega)
  have hRs : ROW.size = G := by
    rw [hROW]
    simp [Builtin.zeroCells, Value.cells]
    omega
  have hRi : ∀ j, j < i → ROW[j]? = cs[j]? := fun j hj => by
    rw [hROW, Array.append_assoc, Array.getElem?_append_left (by simp; omega)]
    simp [hj]
  obtain ⟨W1, hW1⟩ : ∃ W1, W1 = w.alloc (.cells ROW 45) := ⟨_, rfl⟩
  have hrz' : ∀ ty, (Builtin.append_ #[31, 3] ty #[.slice (some ⟨g, 0, none⟩) i cap, .int .i64 ((n : Int) + 1 - (i : Int))]).run Yba.prog w = .ok (.slice (some ⟨w.heap.size, 0, none⟩) (n + 1) G) W1.drew := fun ty => by
    rw [hrz ty, hW1]; rfl
  clear hrz
  have oW : objAt W1 w.heap.size = some (.cells ROW 45 (0, 0)) := by rw [hW1]; exact heapN _ _ _ rfl
  have hN : ∀ j, j < n + 1 → (W1.cell? ⟨w.heap.size, j, none⟩).isSome = true := fun j hj => by rw [obj_cell oW]; simp; omega
  have hNf : ∀ j, W1.frozen? ⟨w.heap.size, j, none⟩ = false := fun j => obj_frozen oW j
  have hOb : ∀ j v, w.cell? ⟨g, j, none⟩ = some v → W1.cell? ⟨g, j, none⟩ = some v := fun j v h => by rw [hW1, World.cell?_alloc_past _ g j hgw]; exact h
  have hOv : ∀ j v, w.cell? ⟨vb, j, none⟩ = some v → W1.cell? ⟨vb, j, none⟩ = some v := fun j v h => by rw [hW1, World.cell?_alloc_past _ vb j hvw]; exact h
  have hcpA : ∀ ty dc, (Builtin.copy_ #[31, 31] ty #[.slice (some ⟨w.heap.size, i, none⟩) (n + 1 - i) dc, .slice (some ⟨vb, 0, none⟩) 1 1]).run Yba.prog W1.drew = .ok (goInt 1) (W1.setCells w.heap.size i [x]).drew := fun ty dc => by
    rw [← setsD]
    exact run_copy_cells W1.drew _ _ ty 45 w.heap.size i (n + 1 - i) dc ⟨vb, 0, none⟩ 1 1 [x] Yba.underlying31 size45 (by simp only [Nat.min_def, List.length_cons, List.length_nil]; split <;> omega)
      (fun j v hj => by rw [Addr.add_lit, Nat.zero_add]; exact hOv _ v (hvs j v hj))
      (fun j hj => hN _ (by simp at hj; omega)) (fun j hj => hNf _) (by intro v hv; simp at hv; subst hv; exact h1)
  have hgN : g ≠ w.heap.size := by omega
  have hdl : (cs.drop i).length = n - i := by rw [List.length_drop, hcl]
  obtain ⟨X, hX⟩ : ∃ X, X = W1.setCells w.heap.size i [x] := ⟨_, rfl⟩
  have hcpB : ∀ ty dc sc, (Builtin.copy_ #[31, 31] ty #[.slice (some ⟨w.heap.size, i + 1, none⟩) (n - i) dc, .slice (some ⟨g, i, none⟩) (n - i) sc]).run Yba.prog X.drew.drew = .ok (goInt (cs.drop i).length) (X.drew.drew.setCells w.heap.size (i + 1) (cs.drop i)) := fun ty dc sc =>
    run_copy_cells X.drew.drew _ _ ty 45 w.heap.size (i + 1) (n - i) dc ⟨g, i, none⟩ (n - i) sc (cs.drop i) Yba.underlying31 size45 (by rw [hdl]; simp only [Nat.min_def]; split <;> omega)
      (fun j v hj => by
        rw [Addr.add_lit]
        show X.cell? _ = _
        rw [hX, World.cell?_setCells_out _ _ _ _ _ (fun h _ => absurd h hgN)]
        exact hOb _ v (hcc (i + j) v (by rwa [List.getElem?_drop] at hj)))
      (fun j hj => by
        show (X.cell? _).isSome = true
        rw [hX]
        exact isSome_setCells w.heap.size [x] i W1 (fun t ht => hN _ (by simp at ht; omega)) (i + 1 + j) (hN _ (by rw [hdl] at hj; omega)))
      (fun j hj => by show X.frozen? _ = _; rw [hX, World.frozen?_setCells]; exact hNf _) (fun v hv => hone v (List.mem_of_mem_drop hv))
  rw [← hX] at hcpA
  have fin : Same ((W1.setCells w.heap.size i [x]).setCells w.heap.size (i + 1) (cs.drop i)) (X.drew.drew.setCells w.heap.size (i + 1) (cs.drop i)) := by
    rw [hX, setsD, setsD]
    exact ⟨rfl, rfl, rfl, rfl⟩
  have hb1 : (0 : Int) ≤ (i : Int) + 1 := by omega
  have hb0 : (0 : Int) ≤ (i : Int) := by omega
  have hin : (i : Int) ≤ (n : Int) := by omega
  have htn : ((i : Int) + 1).toNat = i + 1 := by omega
  have hb2 : ¬ (G = i + 1) := by omega
  have hb3 : (i : Int) ≤ (n : Int) + 1 := by omega
  have hb4 : ¬ (G = i) := by omega
  have hb5 : ¬ (cap = i) := by omega
  have hb6 : (i : Int) + 1 ≤ (n : Int) + 1 := by omega
  have hb7 : (i : Int) ≤ (cap : Int) := by omega
  clear hcc hN hNf hOb hOv hvs hold hG hROW hone
  replace hRi := hid hRi
  replace hX := hid hX
  replace hv := hid hv
  replace hcl := hid hcl
  replace hdl := hid hdl
  replace hW1 := hid hW1
  replace oW := hid oW
  replace fin := hid fin
  replace hRs := hid hRs
  replace hkk := hid hkk
  replace hik := hid hik
  go_enter Yba.func24, Yba.ntmps24
  go_wp2_with (at_builtin; refine Lib.wpList_append_run _ rfl _ _ _ _ rfl _ _ rfl rfl _ _ (hrz' _) ?_)
  have hw1 : IntKind.i64.wrap ((i : Int) + 1) = (i : Int) + 1 := (wr64 _ (by omega) (by omega)).1
  go_region
  go_wp2
  go_ret
  exact ⟨G, ROW, W1, rfl, hW1, hRs, hGn, hGm, hRi, fin⟩

theorem ins_list {C : Array Value} {xs : List Value} {n i : Nat} {x : Value} (hl : xs.length = n) (hi : i < n) (h1 : ∀ j, j < i → C[j]? = xs[j]?) (h2 : C[i]? = some x) (h3 : ∀ j, j < n - i → C[i + 1 + j]? = xs[i + j]?) :
    C.toList.take ((n + 1) * 1) = xs.take i ++ x :: xs.drop i := by
  apply List.ext_getElem?
  intro j
  rw [Nat.mul_one, List.getElem?_take]
  by_cases hj : j < n + 1
  · rw [if_pos hj, Array.getElem?_toList]
    rcases Nat.lt_trichotomy j i with h | h | h
    · rw [h1 j h, List.getElem?_append_left (by simp; omega)]
      simp [h]
    · subst h
      rw [h2, List.getElem?_append_right (by simp; omega)]
      simp [Nat.min_eq_left (by omega : j ≤ xs.length)]
    · rw [List.getElem?_append_right (by simp; omega)]
      have e : j - (xs.take i).length = (j - i - 1) + 1 := by simp; omega
      rw [e, List.getElem?_cons_succ, List.getElem?_drop]
      have := h3 (j - i - 1) (by omega)
      rw [show i + 1 + (j - i - 1) = j by omega] at this
      exact this
  · rw [if_neg hj, List.getElem?_eq_none]
    simp
    omega

/-- THE CONTRACT. -/
theorem insert_any (sv : Value) (n i vb : Nat) (x : Value) (xs : List Value) (w : World) (hi : i ≤ n) (hn : n ≤ 1000) (hown : w.ownsRow 0 45 1 sv n xs) (hone : ∀ v ∈ xs, v.oneCell' = true) (hv : objAt w vb = some (.cells #[x] 45 (0, 0))) (hvb : sv.ownBlock ≠ some vb) (h1 : x.oneCell' = true) :
    Calls Yba.prog 24 #[sv, .int .i64 i, .slice (some ⟨vb, 0, none⟩) 1 1] w (IRes w sv n i x xs) := by
  have hl : xs.length = n := by have := hown.1; omega
  rcases Nat.lt_or_ge i n with hin | hin
  · obtain ⟨g, cap, rfl, _, hglt⟩ := hown.form (by omega)
    rcases hown.2 with ⟨h, _⟩ | ⟨g', cap', cur, h, _, hg, hnc, hcm, hcs, htk⟩
    · cases h
    · cases h
      have hvb' : vb ≠ g := fun e => hvb (by rw [e]; rfl)
      have hcc : ∀ j v, xs[j]? = some v → w.cell? ⟨g, j, none⟩ = some v := fun j v hj => by
        rw [obj_cell hg]
        rw [← htk, List.getElem?_take] at hj
        split at hj
        · simpa using hj
        · cases hj
      have hcx : ∀ j, j < n → cur[j]? = xs[j]? := fun j hj => by
        rw [← htk, List.getElem?_take, if_pos (by omega), Array.getElem?_toList]
      have htk' : cur.toList.take n = xs := by rw [← htk, Nat.mul_one]
      by_cases hroom : n + 1 ≤ cap
      · refine (insert_shift g n cap i vb cur x w hin hn hroom hg (by omega) (by rw [htk']; exact hone) hv hvb' h1).mono ?_
        rintro e w' ⟨rfl, rfl⟩
        rw [htk']
        have o1 : objAt (w.drew.setCells g (i + 1) (xs.drop i)) g = some (.cells (spl cur (i + 1) (xs.drop i)) 45 (0, 0)) := obj_sets _ _ _ _ hg
        have o2 : objAt ((w.drew.setCells g (i + 1) (xs.drop i)).setCells g i [x]) g = some (.cells (spl (spl cur (i + 1) (xs.drop i)) i [x]) 45 (0, 0)) := obj_sets _ _ _ _ o1
        refine ⟨g, cap, rfl, ⟨by simp [hl]; omega, .inr ⟨g, cap, _, rfl, Nat.zero_le _, o2, hroom, hcm, by rw [spl_size, spl_size, hcs], ?_⟩⟩, ?_, .inl rfl, by rw [size_sets, size_sets]; exact hglt⟩
        · refine ins_list hl hin (fun j hj => ?_) ?_ (fun j hj => ?_)
          · rw [spl_get _ _ _ _ (by rw [spl_size]; simp; omega), if_neg (by omega), spl_get _ _ _ _ (by simp; omega), if_neg (by omega)]
            exact hcx j (by omega)
          · rw [spl_get _ _ _ _ (by rw [spl_size]; simp; omega), if_pos (by simp)]
            simp
          · rw [spl_get _ _ _ _ (by rw [spl_size]; simp; omega), if_neg (by simp <;> omega), spl_get _ _ _ _ (by simp; omega), if_pos (by simp; omega), List.getElem?_drop]
            congr 1
            omega
        · have : w.grownBy w.drew (some g) := ⟨rfl, rfl, rfl, Nat.le_refl _, fun _ _ _ => rfl⟩
          exact this.trans ((grown_sets _ _ _ _).trans (grown_sets _ _ _ _))
      · refine (insert_grow g n cap i vb xs x w hin hn hnc (by omega) hl hcc hone hv h1).mono ?_
        rintro e w' ⟨G, ROW, W1, rfl, hW1, hRs, hGn, hGm, hRi, hs⟩
        have o0 : objAt W1 w.heap.size = some (.cells ROW 45 (0, 0)) := by rw [hW1]; exact heapN _ _ _ rfl
        have o1 : objAt (W1.setCells w.heap.size i [x]) w.heap.size = some (.cells (spl ROW i [x]) 45 (0, 0)) := obj_sets _ _ _ _ o0
        have o2 : objAt ((W1.setCells w.heap.size i [x]).setCells w.heap.size (i + 1) (xs.drop i)) w.heap.size = some (.cells (spl (spl ROW i [x]) (i + 1) (xs.drop i)) 45 (0, 0)) := obj_sets _ _ _ _ o1
        have o3 := (hs.obj w.heap.size).trans o2
        refine ⟨w.heap.size, G, rfl, ⟨by simp [hl]; omega, .inr ⟨_, G, _, rfl, Nat.zero_le _, o3, hGn, hGm, by rw [spl_size, spl_size, hRs, Nat.mul_one], ?_⟩⟩, ?_, .inr (Nat.le_refl _), obj_lt o3⟩
        · refine ins_list hl hin (fun j hj => ?_) ?_ (fun j hj => ?_)
          · rw [spl_get _ _ _ _ (by rw [spl_size]; simp; omega), if_neg (by omega), spl_get _ _ _ _ (by simp; omega), if_neg (by omega)]
            exact hRi j hj
          · rw [spl_get _ _ _ _ (by rw [spl_size]; simp; omega), if_neg (by omega), spl_get _ _ _ _ (by simp; omega), if_pos (by simp)]
            simp
          · rw [spl_get _ _ _ _ (by rw [spl_size]; simp; omega), if_pos (by simp; omega), List.getElem?_drop]
            congr 1
            omega
        · have a1 : w.grownBy W1 (some g) := by rw [hW1]; exact World.grownBy_alloc _ _ _
          have hsz : w.heap.size ≤ w'.heap.size := by
            have := a1.size
            rw [hs.heap, size_sets, size_sets]; exact this
          refine ⟨hs.os.trans ?_, hs.tape.trans ?_, hs.output.trans ?_, hsz, fun b hb hne => ?_⟩
          · exact ((grown_sets _ _ _ _).os.trans (grown_sets _ _ _ _).os).trans a1.os
          · exact ((grown_sets _ _ _ _).tape.trans (grown_sets _ _ _ _).tape).trans a1.tape
          · exact ((grown_sets _ _ _ _).output.trans (grown_sets _ _ _ _).output).trans a1.output
          · rw [hs.heap, heap_setCells _ _ _ _ _ (by omega), heap_setCells _ _ _ _ _ (by omega)]
            exact a1.block b hb hne
  · obtain rfl : i = n := by omega
    obtain ⟨ao, cap, rfl⟩ := form_any hown
    exact insert_end ao i cap vb x xs w hn hown hv h1
end Go.Proofs.Ybulkdljs
