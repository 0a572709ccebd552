/-
  The walk over zz_law_s5624a.go's LawS5624AWhole.
-/
import Derived.Test.YbulkdlliFmtCalls
import Derived.Laws.CopyOwn
import Derived.Deep.QuietTactic
import Derived.BigQuiet
import Derived.Deep.Light
namespace Go.Proofs.YbulkdlliFmt
open Go.RowKit

/-- A row that make has just laid, whole. -/
theorem row_of_made {w' : World} {base g n : Nat} {xs : List Value} (hown : w'.ownsRow base 5 1 (.slice (some ⟨g, 0, none⟩) n n) n xs) :
    ∃ Z : List Value, Z.length = n ∧ w'.heap[g]? = some (.cells Z.toArray 5 (0, 0)) := by
  rcases hown.2 with ⟨h, _⟩ | ⟨g, cap, cur, h, _, hg, _, _, hs, _⟩
  · cases h
  · cases h
    exact ⟨cur.toList, by simpa using hs, by simpa using hg⟩

theorem splice_all {Z cs : List Value} (h : cs.length = Z.length) : splice Z 0 cs = cs := by
  unfold splice
  simp [List.drop_eq_nil_of_le (Nat.le_of_eq h.symm)]

theorem row_cells {w : World} {g : Nat} {cs : List Value} (h : w.heap[g]? = some (.cells cs.toArray 5 (0, 0))) : ∀ j u, cs[j]? = some u → w.cell? ⟨g, j, none⟩ = some u := by
  intro j u hj
  simp [World.cell?, h, hj]

theorem cellsOf_at (bs : List Int) (j : Nat) (h : j < bs.length) : (cellsOf bs)[j]? = some (.int .u8 bs[j]) := by simp [cellsOf, h]
theorem at_front (bs : List Int) (x : Value) (r : List Value) (j : Nat) (h : j < bs.length) : (cellsOf bs ++ x :: r)[j]? = some (.int .u8 bs[j]) := by
  rw [List.getElem?_append_left (by rw [cellsOf_length]; exact h)]; exact cellsOf_at bs j h
theorem at_mid (bs : List Int) (x : Value) (r : List Value) (lb : Nat) (h : bs.length = lb) : (cellsOf bs ++ x :: r)[lb]? = some x := by
  rw [List.getElem?_append_right (by rw [cellsOf_length]; omega), cellsOf_length, h]; simp
theorem at_back (bs vs : List Int) (x : Value) (lb j : Nat) (hb : bs.length = lb) (h : j < vs.length) : (cellsOf bs ++ x :: cellsOf vs)[lb + 1 + j]? = some (.int .u8 vs[j]) := by
  rw [List.getElem?_append_right (by rw [cellsOf_length]; omega), cellsOf_length, hb, show lb + 1 + j - lb = j + 1 by omega, List.getElem?_cons_succ]
  exact cellsOf_at vs j h

/-- What the rounds of the first loop read. -/
theorem facts1 {w w4 w5 : World} {b off lb h : Nat} {bs : List Int} {x : Value} {r : List Value} (hbl : bs.length = lb) (HB : ∀ j u, (cellsOf bs)[j]? = some u → w.cell? ⟨b, off + j, none⟩ = some u)
    (HRb : w4.heap[w.heap.size]? = some (.cells (cellsOf bs).toArray 5 (0, 0))) (hbw4 : Below w.heap.size w w4) (hbel5 : Below w4.heap.size w4 w5)
    (hc : ∀ j u, (cellsOf bs ++ x :: r)[j]? = some u → w5.cell? ⟨h, j, none⟩ = some u) :
    ∀ j, j < lb → ∀ wr : World, Below w5.heap.size w5 wr → ∃ y : Int, wr.cell? ⟨h, j, none⟩ = some (.int .u8 y) ∧ wr.cell? ⟨b, off + j, none⟩ = some (.int .u8 y) ∧ wr.cell? ⟨w.heap.size, j, none⟩ = some (.int .u8 y) := by
  intro j hj wr hr
  subst hbl
  refine ⟨bs[j], cell_later hr (hc j _ (at_front bs x r j hj)), cell_later hr (cell_later hbel5 (cell_later hbw4 (HB j _ (cellsOf_at bs j hj)))), cell_later hr (cell_later hbel5 (row_cells HRb j _ (cellsOf_at bs j hj)))⟩

/-- What the rounds of the second loop read. -/
theorem facts2 {w w4 w5 : World} {vb voff lb lv h g : Nat} {bs vs : List Int} {x : Value} (hbl : bs.length = lb) (hvl : vs.length = lv) (HV : ∀ j u, (cellsOf vs)[j]? = some u → w.cell? ⟨vb, voff + j, none⟩ = some u)
    (HRv : w4.heap[g]? = some (.cells (cellsOf vs).toArray 5 (0, 0))) (hbw4 : Below w.heap.size w w4) (hbel5 : Below w4.heap.size w4 w5)
    (hc : ∀ j u, (cellsOf bs ++ x :: cellsOf vs)[j]? = some u → w5.cell? ⟨h, j, none⟩ = some u) :
    ∀ j, j < lv → ∀ wr : World, Below w5.heap.size w5 wr → ∃ y : Int, wr.cell? ⟨h, lb + 1 + j, none⟩ = some (.int .u8 y) ∧ wr.cell? ⟨vb, voff + j, none⟩ = some (.int .u8 y) ∧ wr.cell? ⟨g, j, none⟩ = some (.int .u8 y) := by
  intro j hj wr hr
  subst hvl
  refine ⟨vs[j], cell_later hr (hc _ _ (at_back bs vs x lb j hbl hj)), cell_later hr (cell_later hbel5 (cell_later hbw4 (HV j _ (cellsOf_at vs j hj)))), cell_later hr (cell_later hbel5 (row_cells HRv j _ (cellsOf_at vs j hj)))⟩

set_option maxRecDepth 100000 in
set_option maxHeartbeats 1000000 in
theorem law_AA (b off lb cb vb voff lv cv : Nat) (bs vs : List Int) (w : World) (hbl : bs.length = lb) (hvl : vs.length = lv) (h1 : lb ≤ 1048576) (h2 : lv < 256)
    (HB : Hid (∀ j u, (cellsOf bs)[j]? = some u → w.cell? ⟨b, off + j, none⟩ = some u)) (HV : Hid (∀ j u, (cellsOf vs)[j]? = some u → w.cell? ⟨vb, voff + j, none⟩ = some u)) :
    Calls Ybaf.prog 3 #[.slice (some ⟨b, off, none⟩) lb cb, .slice (some ⟨vb, voff, none⟩) lv cv] w fun e w' => e = .returned (.bool true) ∧ Below w.heap.size w w' := by
  obtain ⟨i0, hi, hz0, hz1, hz2⟩ := info_parts info5
  have hsz1 : (Ybaf.prog.info? 5).map (·.size) = some 1 := by rw [hi]; simp [hz1]
  go_enter Ybaf.func3, Ybaf.ntmps3
  go_wp2_with (at_make; refine wpList_make_full _ rfl (.tmp 17) (.tmp 17) 22 rfl w.heap.size 5 i0 (.int .u8 0) 1 Ybaf.underlying22 hi hz0 hz1 _ _ _ _ lb rfl rfl rfl rfl (by rw [hz2]; omega) (by unfold maxLen; omega) (Nat.le_refl _) ?_)
  intro w1 hown1 hgrow1
  obtain ⟨Zb, hZb, hrow1⟩ := row_of_made hown1
  have hbel1 : Below w.heap.size w w1 := (Below.refl _ w).grown hgrow1 (Nat.le_refl _) (by intro k hk; cases hk)
  have HR1 : Hid (w1.heap[w.heap.size]? = some (.cells Zb.toArray 5 (0, 0))) := hrow1
  clear hown1 hgrow1 hrow1
  go_wp2_with (refine wpList_copy_splice rfl (.tmp 19) (.tmp 20) 22 22 rfl 5 Ybaf.underlying22 hsz1 _ _ _ _ _ _ rfl rfl w.heap.size 0 Zb 5 HR1.out (cellsOf bs) ?hn ?hpos ?hfit (cellsOf_one bs) w.heap.size w hbel1 (Nat.le_refl _) ?_)
  case hn => rw [cellsOf_length, hbl]; exact (Nat.min_self lb).symm
  case hpos => exact fun _ j v hj => cell_later hbel1 (HB.out j v hj)
  case hfit => rw [cellsOf_length, hbl, hZb]; omega
  intro w2 HR2 hbel2
  have HR3 : Hid (w2.heap[w.heap.size]? = some (.cells (cellsOf bs).toArray 5 (0, 0))) := by
    have := HR2.out
    rwa [splice_all (by rw [cellsOf_length, hbl, hZb])] at this
  have hsz2 : w.heap.size < w2.heap.size := (Array.getElem?_eq_some_iff.1 HR3.out).1
  clear HR2 HR1 hbel1
  go_wp2_with (at_make; refine wpList_make_full _ rfl (.tmp 23) (.tmp 23) 22 rfl w2.heap.size 5 i0 (.int .u8 0) 1 Ybaf.underlying22 hi hz0 hz1 _ _ _ _ lv rfl rfl rfl rfl (by rw [hz2]; omega) (by unfold maxLen; omega) (Nat.le_refl _) ?_)
  intro w3 hown3 hgrow3
  obtain ⟨Zv, hZv, hrow3⟩ := row_of_made hown3
  have hbel3 : Below w2.heap.size w2 w3 := (Below.refl _ w2).grown hgrow3 (Nat.le_refl _) (by intro k hk; cases hk)
  have HR4 : Hid (w3.heap[w2.heap.size]? = some (.cells Zv.toArray 5 (0, 0))) := hrow3
  clear hown3 hgrow3 hrow3
  have hbw3 : Below w.heap.size w w3 := hbel2.trans (hbel3.mono (by omega))
  go_wp2_with (refine wpList_copy_splice rfl (.tmp 25) (.tmp 26) 22 22 rfl 5 Ybaf.underlying22 hsz1 _ _ _ _ _ _ rfl rfl w2.heap.size 0 Zv 5 HR4.out (cellsOf vs) ?hn2 ?hpos2 ?hfit2 (cellsOf_one vs) w2.heap.size w2 hbel3 (Nat.le_refl _) ?_)
  case hn2 => rw [cellsOf_length, hvl]; exact (Nat.min_self lv).symm
  case hpos2 => exact fun _ j v hj => cell_later hbw3 (HV.out j v hj)
  case hfit2 => rw [cellsOf_length, hvl, hZv]; omega
  intro w4 HR5 hbel4
  have HRv : Hid (w4.heap[w2.heap.size]? = some (.cells (cellsOf vs).toArray 5 (0, 0))) := by
    have := HR5.out
    rwa [splice_all (by rw [cellsOf_length, hvl, hZv])] at this
  have HRb : Hid (w4.heap[w.heap.size]? = some (.cells (cellsOf bs).toArray 5 (0, 0))) := (hbel4.block _ hsz2).trans HR3.out
  have hsz4 : w2.heap.size < w4.heap.size := (Array.getElem?_eq_some_iff.1 HRv.out).1
  have hbw4 : Below w.heap.size w w4 := hbel2.trans (hbel4.mono (by omega))
  clear HR5 HR4 HR3 hbel3 hbw3 hbel4 hbel2
  go_wp2_with (go_at_call 4; refine (av_any w.heap.size lb lv cv bs vs _ w4 hbl hvl h1 h2 ?hnone ?hgb ?hgv).mono ?_)
  case hnone => exact fun h => by cases h
  case hgb => exact fun j u hj => by rw [Addr.add_lit, Nat.zero_add]; exact row_cells HRb.out j u hj
  case hgv => exact fun ad h j u hj => by obtain rfl := Option.some.inj h; rw [Addr.add_lit]; exact cell_later hbw4 (HV.out j u hj)
  rintro e w5 ⟨h, cap, rfl, hh, hcap, hbel5, hcells⟩
  have C1 : Hid (∀ j, j < lb → ∀ wr : World, Below w5.heap.size w5 wr → ∃ y : Int, wr.cell? ⟨h, j, none⟩ = some (.int .u8 y) ∧ wr.cell? ⟨b, off + j, none⟩ = some (.int .u8 y) ∧ wr.cell? ⟨w.heap.size, j, none⟩ = some (.int .u8 y)) :=
    facts1 hbl HB.out HRb.out hbw4 hbel5 hcells
  have C2 : Hid (∀ wr : World, Below w5.heap.size w5 wr → wr.cell? ⟨h, lb, none⟩ = some (.int .u8 lv)) := fun wr hr => cell_later hr (hcells lb _ (at_mid bs _ _ lb hbl))
  have C3 : Hid (∀ j, j < lv → ∀ wr : World, Below w5.heap.size w5 wr → ∃ y : Int, wr.cell? ⟨h, lb + 1 + j, none⟩ = some (.int .u8 y) ∧ wr.cell? ⟨vb, voff + j, none⟩ = some (.int .u8 y) ∧ wr.cell? ⟨w2.heap.size, j, none⟩ = some (.int .u8 y)) :=
    facts2 hbl hvl HV.out HRv.out hbw4 hbel5 hcells
  have hbw5 : Below w.heap.size w w5 := hbw4.trans (hbel5.mono (by omega))
  have hs5 : w4.heap.size ≤ w5.heap.size := hbel5.size
  clear hcells hbel5 HRb HRv HB HV hZb hZv hbw4 Zb Zv
  go_wp2
  go_loopw [8] (fun i wr => ∃ k : Nat, k ≤ lb ∧ i = .int .i64 k ∧ Below w5.heap.size w5 wr) (fun i _ => lb - (intOf i).toNat)
  case atStart => exact ⟨0, Nat.zero_le _, rfl, Below.refl _ _⟩
  case round =>
    obtain ⟨k, hk, rfl, hbr⟩ := hrel
    by_cases hlt : k < lb
    · obtain ⟨y, f1, f2, f3⟩ := C1.out k hlt wr hbr
      have i1 : (k : Int) < (lb : Int) := by omega
      have i2 : (k : Int) < ((lb + 1 + lv : Nat) : Int) := by omega
      go_wp2
      go_quiet (fail)
      go_wp2
      go_roundw
      case rel => exact ⟨k + 1, by omega, by go_num, below_drewN hbr _⟩
      case measure => simp [intOf]; omega
    · have f0 := C2.out wr hbr
      have i1 : (lb : Int) < ((lb + 1 + lv : Nat) : Int) := by omega
      go_wp2
      go_loopw [9] (fun i wx => ∃ m : Nat, m ≤ lv ∧ i = .int .i64 m ∧ Below w5.heap.size w5 wx) (fun i _ => lv - (intOf i).toNat)
      case atStart => exact ⟨0, Nat.zero_le _, rfl, hbr⟩
      case round =>
        obtain ⟨m, hm, rfl, hbx⟩ := hrel
        clear f0 i1
        by_cases hlt2 : m < lv
        · obtain ⟨y, f1, f2, f3⟩ := C3.out m hlt2 _ hbx
          have i1 : (m : Int) < (lv : Int) := by omega
          have i2 : (lb : Int) + 1 + (m : Int) < ((lb + 1 + lv : Nat) : Int) := by omega
          go_wp2
          go_quiet (fail)
          go_wp2
          go_roundw
          case rel => exact ⟨m + 1, by omega, by go_num, below_drewN hbx _⟩
          case measure => simp [intOf]; omega
        · go_wp2
          go_ret
          exact ⟨rfl, hbw5.trans (hbx.mono (by omega))⟩

set_option maxRecDepth 100000 in
set_option maxHeartbeats 1000000 in
theorem law_AB (b off lb cb lv cv : Nat) (bs vs : List Int) (w : World) (hbl : bs.length = lb) (hvl : vs.length = lv) (h1 : lb ≤ 1048576) (h2 : lv < 256)
    (HB : Hid (∀ j u, (cellsOf bs)[j]? = some u → w.cell? ⟨b, off + j, none⟩ = some u)) (vo : Option Addr) (HV : Hid (lv = 0)) (HN : Hid (vo = none → cv = 0)) :
    Calls Ybaf.prog 3 #[.slice (some ⟨b, off, none⟩) lb cb, .slice vo lv cv] w fun e w' => e = .returned (.bool true) ∧ Below w.heap.size w w' := by
  obtain ⟨i0, hi, hz0, hz1, hz2⟩ := info_parts info5
  have hsz1 : (Ybaf.prog.info? 5).map (·.size) = some 1 := by rw [hi]; simp [hz1]
  go_enter Ybaf.func3, Ybaf.ntmps3
  go_wp2_with (at_make; refine wpList_make_full _ rfl (.tmp 17) (.tmp 17) 22 rfl w.heap.size 5 i0 (.int .u8 0) 1 Ybaf.underlying22 hi hz0 hz1 _ _ _ _ lb rfl rfl rfl rfl (by rw [hz2]; omega) (by unfold maxLen; omega) (Nat.le_refl _) ?_)
  intro w1 hown1 hgrow1
  obtain ⟨Zb, hZb, hrow1⟩ := row_of_made hown1
  have hbel1 : Below w.heap.size w w1 := (Below.refl _ w).grown hgrow1 (Nat.le_refl _) (by intro k hk; cases hk)
  have HR1 : Hid (w1.heap[w.heap.size]? = some (.cells Zb.toArray 5 (0, 0))) := hrow1
  clear hown1 hgrow1 hrow1
  go_wp2_with (refine wpList_copy_splice rfl (.tmp 19) (.tmp 20) 22 22 rfl 5 Ybaf.underlying22 hsz1 _ _ _ _ _ _ rfl rfl w.heap.size 0 Zb 5 HR1.out (cellsOf bs) ?hn ?hpos ?hfit (cellsOf_one bs) w.heap.size w hbel1 (Nat.le_refl _) ?_)
  case hn => rw [cellsOf_length, hbl]; exact (Nat.min_self lb).symm
  case hpos => exact fun _ j v hj => cell_later hbel1 (HB.out j v hj)
  case hfit => rw [cellsOf_length, hbl, hZb]; omega
  intro w2 HR2 hbel2
  have HR3 : Hid (w2.heap[w.heap.size]? = some (.cells (cellsOf bs).toArray 5 (0, 0))) := by
    have := HR2.out
    rwa [splice_all (by rw [cellsOf_length, hbl, hZb])] at this
  have hsz2 : w.heap.size < w2.heap.size := (Array.getElem?_eq_some_iff.1 HR3.out).1
  clear HR2 HR1 hbel1
  go_wp2_with (at_make; refine wpList_make_full _ rfl (.tmp 23) (.tmp 23) 22 rfl w2.heap.size 5 i0 (.int .u8 0) 1 Ybaf.underlying22 hi hz0 hz1 _ _ _ _ lv rfl rfl rfl rfl (by rw [hz2]; omega) (by unfold maxLen; omega) (Nat.le_refl _) ?_)
  intro w3 hown3 hgrow3
  obtain ⟨Zv, hZv, hrow3⟩ := row_of_made hown3
  have hbel3 : Below w2.heap.size w2 w3 := (Below.refl _ w2).grown hgrow3 (Nat.le_refl _) (by intro k hk; cases hk)
  have HR4 : Hid (w3.heap[w2.heap.size]? = some (.cells Zv.toArray 5 (0, 0))) := hrow3
  clear hown3 hgrow3 hrow3
  have hbw3 : Below w.heap.size w w3 := hbel2.trans (hbel3.mono (by omega))
  go_wp2_with (refine wpList_copy_splice rfl (.tmp 25) (.tmp 26) 22 22 rfl 5 Ybaf.underlying22 hsz1 _ _ _ _ _ _ rfl rfl w2.heap.size 0 Zv 5 HR4.out (cellsOf vs) ?hn2 ?hpos2 ?hfit2 (cellsOf_one vs) w2.heap.size w2 hbel3 (Nat.le_refl _) ?_)
  case hn2 => rw [cellsOf_length, hvl]; exact (Nat.min_self lv).symm
  case hpos2 => intro hp; rw [cellsOf_length, hvl, HV.out] at hp; exact absurd hp (by omega)
  case hfit2 => rw [cellsOf_length, hvl, hZv]; omega
  intro w4 HR5 hbel4
  have HRv : Hid (w4.heap[w2.heap.size]? = some (.cells (cellsOf vs).toArray 5 (0, 0))) := by
    have := HR5.out
    rwa [splice_all (by rw [cellsOf_length, hvl, hZv])] at this
  have HRb : Hid (w4.heap[w.heap.size]? = some (.cells (cellsOf bs).toArray 5 (0, 0))) := (hbel4.block _ hsz2).trans HR3.out
  have hsz4 : w2.heap.size < w4.heap.size := (Array.getElem?_eq_some_iff.1 HRv.out).1
  have hbw4 : Below w.heap.size w w4 := hbel2.trans (hbel4.mono (by omega))
  clear HR5 HR4 HR3 hbel3 hbw3 hbel4 hbel2
  go_wp2_with (go_at_call 4; refine (av_any w.heap.size lb lv cv bs vs _ w4 hbl hvl h1 h2 ?hnone ?hgb ?hgv).mono ?_)
  case hnone => exact fun h => ⟨HV.out, HN.out h⟩
  case hgb => exact fun j u hj => by rw [Addr.add_lit, Nat.zero_add]; exact row_cells HRb.out j u hj
  case hgv => exact fun ad _ j u hj => by have hj' := (List.getElem?_eq_some_iff.1 hj).1; rw [cellsOf_length, hvl, HV.out] at hj'; omega
  rintro e w5 ⟨h, cap, rfl, hh, hcap, hbel5, hcells⟩
  have C1 : Hid (∀ j, j < lb → ∀ wr : World, Below w5.heap.size w5 wr → ∃ y : Int, wr.cell? ⟨h, j, none⟩ = some (.int .u8 y) ∧ wr.cell? ⟨b, off + j, none⟩ = some (.int .u8 y) ∧ wr.cell? ⟨w.heap.size, j, none⟩ = some (.int .u8 y)) :=
    facts1 hbl HB.out HRb.out hbw4 hbel5 hcells
  have C2 : Hid (∀ wr : World, Below w5.heap.size w5 wr → wr.cell? ⟨h, lb, none⟩ = some (.int .u8 lv)) := fun wr hr => cell_later hr (hcells lb _ (at_mid bs _ _ lb hbl))
  have hbw5 : Below w.heap.size w w5 := hbw4.trans (hbel5.mono (by omega))
  have hs5 : w4.heap.size ≤ w5.heap.size := hbel5.size
  clear hcells hbel5 HRb HRv HB hZb hZv hbw4 Zb Zv
  go_wp2
  go_loopw [8] (fun i wr => ∃ k : Nat, k ≤ lb ∧ i = .int .i64 k ∧ Below w5.heap.size w5 wr) (fun i _ => lb - (intOf i).toNat)
  case atStart => exact ⟨0, Nat.zero_le _, rfl, Below.refl _ _⟩
  case round =>
    obtain ⟨k, hk, rfl, hbr⟩ := hrel
    by_cases hlt : k < lb
    · obtain ⟨y, f1, f2, f3⟩ := C1.out k hlt wr hbr
      have i1 : (k : Int) < (lb : Int) := by omega
      have i2 : (k : Int) < ((lb + 1 + lv : Nat) : Int) := by omega
      go_wp2
      go_quiet (fail)
      go_wp2
      go_roundw
      case rel => exact ⟨k + 1, by omega, by go_num, below_drewN hbr _⟩
      case measure => simp [intOf]; omega
    · have f0 := C2.out wr hbr
      have i1 : (lb : Int) < ((lb + 1 + lv : Nat) : Int) := by omega
      go_wp2
      go_loopw [9] (fun i wx => ∃ m : Nat, m ≤ lv ∧ i = .int .i64 m ∧ Below w5.heap.size w5 wx) (fun i _ => lv - (intOf i).toNat)
      case atStart => exact ⟨0, Nat.zero_le _, rfl, hbr⟩
      case round =>
        obtain ⟨m, hm, rfl, hbx⟩ := hrel
        clear f0 i1
        by_cases hlt2 : m < lv
        · exact absurd hlt2 (by rw [HV.out]; omega)
        · go_wp2
          go_ret
          exact ⟨rfl, hbw5.trans (hbx.mono (by omega))⟩

set_option maxRecDepth 100000 in
set_option maxHeartbeats 1000000 in
theorem law_BA (lb cb vb voff lv cv : Nat) (bs vs : List Int) (w : World) (hbl : bs.length = lb) (hvl : vs.length = lv) (h1 : lb ≤ 1048576) (h2 : lv < 256)
    (bo : Option Addr) (HB : Hid (lb = 0)) (HV : Hid (∀ j u, (cellsOf vs)[j]? = some u → w.cell? ⟨vb, voff + j, none⟩ = some u)) :
    Calls Ybaf.prog 3 #[.slice bo lb cb, .slice (some ⟨vb, voff, none⟩) lv cv] w fun e w' => e = .returned (.bool true) ∧ Below w.heap.size w w' := by
  obtain ⟨i0, hi, hz0, hz1, hz2⟩ := info_parts info5
  have hsz1 : (Ybaf.prog.info? 5).map (·.size) = some 1 := by rw [hi]; simp [hz1]
  go_enter Ybaf.func3, Ybaf.ntmps3
  go_wp2_with (at_make; refine wpList_make_full _ rfl (.tmp 17) (.tmp 17) 22 rfl w.heap.size 5 i0 (.int .u8 0) 1 Ybaf.underlying22 hi hz0 hz1 _ _ _ _ lb rfl rfl rfl rfl (by rw [hz2]; omega) (by unfold maxLen; omega) (Nat.le_refl _) ?_)
  intro w1 hown1 hgrow1
  obtain ⟨Zb, hZb, hrow1⟩ := row_of_made hown1
  have hbel1 : Below w.heap.size w w1 := (Below.refl _ w).grown hgrow1 (Nat.le_refl _) (by intro k hk; cases hk)
  have HR1 : Hid (w1.heap[w.heap.size]? = some (.cells Zb.toArray 5 (0, 0))) := hrow1
  clear hown1 hgrow1 hrow1
  go_wp2_with (refine wpList_copy_splice rfl (.tmp 19) (.tmp 20) 22 22 rfl 5 Ybaf.underlying22 hsz1 _ _ _ _ _ _ rfl rfl w.heap.size 0 Zb 5 HR1.out (cellsOf bs) ?hn ?hpos ?hfit (cellsOf_one bs) w.heap.size w hbel1 (Nat.le_refl _) ?_)
  case hn => rw [cellsOf_length, hbl]; exact (Nat.min_self lb).symm
  case hpos => intro hp; rw [cellsOf_length, hbl, HB.out] at hp; exact absurd hp (by omega)
  case hfit => rw [cellsOf_length, hbl, hZb]; omega
  intro w2 HR2 hbel2
  have HR3 : Hid (w2.heap[w.heap.size]? = some (.cells (cellsOf bs).toArray 5 (0, 0))) := by
    have := HR2.out
    rwa [splice_all (by rw [cellsOf_length, hbl, hZb])] at this
  have hsz2 : w.heap.size < w2.heap.size := (Array.getElem?_eq_some_iff.1 HR3.out).1
  clear HR2 HR1 hbel1
  go_wp2_with (at_make; refine wpList_make_full _ rfl (.tmp 23) (.tmp 23) 22 rfl w2.heap.size 5 i0 (.int .u8 0) 1 Ybaf.underlying22 hi hz0 hz1 _ _ _ _ lv rfl rfl rfl rfl (by rw [hz2]; omega) (by unfold maxLen; omega) (Nat.le_refl _) ?_)
  intro w3 hown3 hgrow3
  obtain ⟨Zv, hZv, hrow3⟩ := row_of_made hown3
  have hbel3 : Below w2.heap.size w2 w3 := (Below.refl _ w2).grown hgrow3 (Nat.le_refl _) (by intro k hk; cases hk)
  have HR4 : Hid (w3.heap[w2.heap.size]? = some (.cells Zv.toArray 5 (0, 0))) := hrow3
  clear hown3 hgrow3 hrow3
  have hbw3 : Below w.heap.size w w3 := hbel2.trans (hbel3.mono (by omega))
  go_wp2_with (refine wpList_copy_splice rfl (.tmp 25) (.tmp 26) 22 22 rfl 5 Ybaf.underlying22 hsz1 _ _ _ _ _ _ rfl rfl w2.heap.size 0 Zv 5 HR4.out (cellsOf vs) ?hn2 ?hpos2 ?hfit2 (cellsOf_one vs) w2.heap.size w2 hbel3 (Nat.le_refl _) ?_)
  case hn2 => rw [cellsOf_length, hvl]; exact (Nat.min_self lv).symm
  case hpos2 => exact fun _ j v hj => cell_later hbw3 (HV.out j v hj)
  case hfit2 => rw [cellsOf_length, hvl, hZv]; omega
  intro w4 HR5 hbel4
  have HRv : Hid (w4.heap[w2.heap.size]? = some (.cells (cellsOf vs).toArray 5 (0, 0))) := by
    have := HR5.out
    rwa [splice_all (by rw [cellsOf_length, hvl, hZv])] at this
  have HRb : Hid (w4.heap[w.heap.size]? = some (.cells (cellsOf bs).toArray 5 (0, 0))) := (hbel4.block _ hsz2).trans HR3.out
  have hsz4 : w2.heap.size < w4.heap.size := (Array.getElem?_eq_some_iff.1 HRv.out).1
  have hbw4 : Below w.heap.size w w4 := hbel2.trans (hbel4.mono (by omega))
  clear HR5 HR4 HR3 hbel3 hbw3 hbel4 hbel2
  go_wp2_with (go_at_call 4; refine (av_any w.heap.size lb lv cv bs vs _ w4 hbl hvl h1 h2 ?hnone ?hgb ?hgv).mono ?_)
  case hnone => exact fun h => by cases h
  case hgb => exact fun j u hj => by rw [Addr.add_lit, Nat.zero_add]; exact row_cells HRb.out j u hj
  case hgv => exact fun ad h j u hj => by obtain rfl := Option.some.inj h; rw [Addr.add_lit]; exact cell_later hbw4 (HV.out j u hj)
  rintro e w5 ⟨h, cap, rfl, hh, hcap, hbel5, hcells⟩
  have C2 : Hid (∀ wr : World, Below w5.heap.size w5 wr → wr.cell? ⟨h, lb, none⟩ = some (.int .u8 lv)) := fun wr hr => cell_later hr (hcells lb _ (at_mid bs _ _ lb hbl))
  have C3 : Hid (∀ j, j < lv → ∀ wr : World, Below w5.heap.size w5 wr → ∃ y : Int, wr.cell? ⟨h, lb + 1 + j, none⟩ = some (.int .u8 y) ∧ wr.cell? ⟨vb, voff + j, none⟩ = some (.int .u8 y) ∧ wr.cell? ⟨w2.heap.size, j, none⟩ = some (.int .u8 y)) :=
    facts2 hbl hvl HV.out HRv.out hbw4 hbel5 hcells
  have hbw5 : Below w.heap.size w w5 := hbw4.trans (hbel5.mono (by omega))
  have hs5 : w4.heap.size ≤ w5.heap.size := hbel5.size
  clear hcells hbel5 HRb HRv HV hZb hZv hbw4 Zb Zv
  go_wp2
  go_loopw [8] (fun i wr => ∃ k : Nat, k ≤ lb ∧ i = .int .i64 k ∧ Below w5.heap.size w5 wr) (fun i _ => lb - (intOf i).toNat)
  case atStart => exact ⟨0, Nat.zero_le _, rfl, Below.refl _ _⟩
  case round =>
    obtain ⟨k, hk, rfl, hbr⟩ := hrel
    by_cases hlt : k < lb
    · exact absurd hlt (by rw [HB.out]; omega)
    · have f0 := C2.out wr hbr
      have i1 : (lb : Int) < ((lb + 1 + lv : Nat) : Int) := by omega
      go_wp2
      go_loopw [9] (fun i wx => ∃ m : Nat, m ≤ lv ∧ i = .int .i64 m ∧ Below w5.heap.size w5 wx) (fun i _ => lv - (intOf i).toNat)
      case atStart => exact ⟨0, Nat.zero_le _, rfl, hbr⟩
      case round =>
        obtain ⟨m, hm, rfl, hbx⟩ := hrel
        clear f0 i1
        by_cases hlt2 : m < lv
        · obtain ⟨y, f1, f2, f3⟩ := C3.out m hlt2 _ hbx
          have i1 : (m : Int) < (lv : Int) := by omega
          have i2 : (lb : Int) + 1 + (m : Int) < ((lb + 1 + lv : Nat) : Int) := by omega
          go_wp2
          go_quiet (fail)
          go_wp2
          go_roundw
          case rel => exact ⟨m + 1, by omega, by go_num, below_drewN hbx _⟩
          case measure => simp [intOf]; omega
        · go_wp2
          go_ret
          exact ⟨rfl, hbw5.trans (hbx.mono (by omega))⟩

set_option maxRecDepth 100000 in
set_option maxHeartbeats 1000000 in
theorem law_BB (lb cb lv cv : Nat) (bs vs : List Int) (w : World) (hbl : bs.length = lb) (hvl : vs.length = lv) (h1 : lb ≤ 1048576) (h2 : lv < 256)
    (bo : Option Addr) (HB : Hid (lb = 0)) (vo : Option Addr) (HV : Hid (lv = 0)) (HN : Hid (vo = none → cv = 0)) :
    Calls Ybaf.prog 3 #[.slice bo lb cb, .slice vo lv cv] w fun e w' => e = .returned (.bool true) ∧ Below w.heap.size w w' := by
  obtain ⟨i0, hi, hz0, hz1, hz2⟩ := info_parts info5
  have hsz1 : (Ybaf.prog.info? 5).map (·.size) = some 1 := by rw [hi]; simp [hz1]
  go_enter Ybaf.func3, Ybaf.ntmps3
  go_wp2_with (at_make; refine wpList_make_full _ rfl (.tmp 17) (.tmp 17) 22 rfl w.heap.size 5 i0 (.int .u8 0) 1 Ybaf.underlying22 hi hz0 hz1 _ _ _ _ lb rfl rfl rfl rfl (by rw [hz2]; omega) (by unfold maxLen; omega) (Nat.le_refl _) ?_)
  intro w1 hown1 hgrow1
  obtain ⟨Zb, hZb, hrow1⟩ := row_of_made hown1
  have hbel1 : Below w.heap.size w w1 := (Below.refl _ w).grown hgrow1 (Nat.le_refl _) (by intro k hk; cases hk)
  have HR1 : Hid (w1.heap[w.heap.size]? = some (.cells Zb.toArray 5 (0, 0))) := hrow1
  clear hown1 hgrow1 hrow1
  go_wp2_with (refine wpList_copy_splice rfl (.tmp 19) (.tmp 20) 22 22 rfl 5 Ybaf.underlying22 hsz1 _ _ _ _ _ _ rfl rfl w.heap.size 0 Zb 5 HR1.out (cellsOf bs) ?hn ?hpos ?hfit (cellsOf_one bs) w.heap.size w hbel1 (Nat.le_refl _) ?_)
  case hn => rw [cellsOf_length, hbl]; exact (Nat.min_self lb).symm
  case hpos => intro hp; rw [cellsOf_length, hbl, HB.out] at hp; exact absurd hp (by omega)
  case hfit => rw [cellsOf_length, hbl, hZb]; omega
  intro w2 HR2 hbel2
  have HR3 : Hid (w2.heap[w.heap.size]? = some (.cells (cellsOf bs).toArray 5 (0, 0))) := by
    have := HR2.out
    rwa [splice_all (by rw [cellsOf_length, hbl, hZb])] at this
  have hsz2 : w.heap.size < w2.heap.size := (Array.getElem?_eq_some_iff.1 HR3.out).1
  clear HR2 HR1 hbel1
  go_wp2_with (at_make; refine wpList_make_full _ rfl (.tmp 23) (.tmp 23) 22 rfl w2.heap.size 5 i0 (.int .u8 0) 1 Ybaf.underlying22 hi hz0 hz1 _ _ _ _ lv rfl rfl rfl rfl (by rw [hz2]; omega) (by unfold maxLen; omega) (Nat.le_refl _) ?_)
  intro w3 hown3 hgrow3
  obtain ⟨Zv, hZv, hrow3⟩ := row_of_made hown3
  have hbel3 : Below w2.heap.size w2 w3 := (Below.refl _ w2).grown hgrow3 (Nat.le_refl _) (by intro k hk; cases hk)
  have HR4 : Hid (w3.heap[w2.heap.size]? = some (.cells Zv.toArray 5 (0, 0))) := hrow3
  clear hown3 hgrow3 hrow3
  have hbw3 : Below w.heap.size w w3 := hbel2.trans (hbel3.mono (by omega))
  go_wp2_with (refine wpList_copy_splice rfl (.tmp 25) (.tmp 26) 22 22 rfl 5 Ybaf.underlying22 hsz1 _ _ _ _ _ _ rfl rfl w2.heap.size 0 Zv 5 HR4.out (cellsOf vs) ?hn2 ?hpos2 ?hfit2 (cellsOf_one vs) w2.heap.size w2 hbel3 (Nat.le_refl _) ?_)
  case hn2 => rw [cellsOf_length, hvl]; exact (Nat.min_self lv).symm
  case hpos2 => intro hp; rw [cellsOf_length, hvl, HV.out] at hp; exact absurd hp (by omega)
  case hfit2 => rw [cellsOf_length, hvl, hZv]; omega
  intro w4 HR5 hbel4
  have HRv : Hid (w4.heap[w2.heap.size]? = some (.cells (cellsOf vs).toArray 5 (0, 0))) := by
    have := HR5.out
    rwa [splice_all (by rw [cellsOf_length, hvl, hZv])] at this
  have HRb : Hid (w4.heap[w.heap.size]? = some (.cells (cellsOf bs).toArray 5 (0, 0))) := (hbel4.block _ hsz2).trans HR3.out
  have hsz4 : w2.heap.size < w4.heap.size := (Array.getElem?_eq_some_iff.1 HRv.out).1
  have hbw4 : Below w.heap.size w w4 := hbel2.trans (hbel4.mono (by omega))
  clear HR5 HR4 HR3 hbel3 hbw3 hbel4 hbel2
  go_wp2_with (go_at_call 4; refine (av_any w.heap.size lb lv cv bs vs _ w4 hbl hvl h1 h2 ?hnone ?hgb ?hgv).mono ?_)
  case hnone => exact fun h => ⟨HV.out, HN.out h⟩
  case hgb => exact fun j u hj => by rw [Addr.add_lit, Nat.zero_add]; exact row_cells HRb.out j u hj
  case hgv => exact fun ad _ j u hj => by have hj' := (List.getElem?_eq_some_iff.1 hj).1; rw [cellsOf_length, hvl, HV.out] at hj'; omega
  rintro e w5 ⟨h, cap, rfl, hh, hcap, hbel5, hcells⟩
  have C2 : Hid (∀ wr : World, Below w5.heap.size w5 wr → wr.cell? ⟨h, lb, none⟩ = some (.int .u8 lv)) := fun wr hr => cell_later hr (hcells lb _ (at_mid bs _ _ lb hbl))
  have hbw5 : Below w.heap.size w w5 := hbw4.trans (hbel5.mono (by omega))
  have hs5 : w4.heap.size ≤ w5.heap.size := hbel5.size
  clear hcells hbel5 HRb HRv hZb hZv hbw4 Zb Zv
  go_wp2
  go_loopw [8] (fun i wr => ∃ k : Nat, k ≤ lb ∧ i = .int .i64 k ∧ Below w5.heap.size w5 wr) (fun i _ => lb - (intOf i).toNat)
  case atStart => exact ⟨0, Nat.zero_le _, rfl, Below.refl _ _⟩
  case round =>
    obtain ⟨k, hk, rfl, hbr⟩ := hrel
    by_cases hlt : k < lb
    · exact absurd hlt (by rw [HB.out]; omega)
    · have f0 := C2.out wr hbr
      have i1 : (lb : Int) < ((lb + 1 + lv : Nat) : Int) := by omega
      go_wp2
      go_loopw [9] (fun i wx => ∃ m : Nat, m ≤ lv ∧ i = .int .i64 m ∧ Below w5.heap.size w5 wx) (fun i _ => lv - (intOf i).toNat)
      case atStart => exact ⟨0, Nat.zero_le _, rfl, hbr⟩
      case round =>
        obtain ⟨m, hm, rfl, hbx⟩ := hrel
        clear f0 i1
        by_cases hlt2 : m < lv
        · exact absurd hlt2 (by rw [HV.out]; omega)
        · go_wp2
          go_ret
          exact ⟨rfl, hbw5.trans (hbx.mono (by omega))⟩

set_option maxRecDepth 100000 in
set_option maxHeartbeats 400000 in
/-- b longer than 2^20 bytes: nothing is asked. -/
theorem law_long (bo vo : Option Addr) (lb cb lv cv : Nat) (w : World) (h1 : 1048576 < lb) :
    Calls Ybaf.prog 3 #[.slice bo lb cb, .slice vo lv cv] w fun e w' => e = .returned (.bool true) ∧ Below w.heap.size w w' := by
  go_enter Ybaf.func3, Ybaf.ntmps3
  go_wp2
  go_ret
  exact ⟨rfl, Below.refl _ _⟩

set_option maxRecDepth 100000 in
set_option maxHeartbeats 400000 in
/-- v of 256 bytes or more: nothing is asked. -/
theorem law_wide (bo vo : Option Addr) (lb cb lv cv : Nat) (w : World) (h1 : lb ≤ 1048576) (h2 : 256 ≤ lv) :
    Calls Ybaf.prog 3 #[.slice bo lb cb, .slice vo lv cv] w fun e w' => e = .returned (.bool true) ∧ Below w.heap.size w w' := by
  go_enter Ybaf.func3, Ybaf.ntmps3
  go_wp2
  go_ret
  exact ⟨rfl, Below.refl _ _⟩

/-- What is known of a slice of bytes that came in: its elements; where there is one, its address and its cells. -/
structure Seen (w : World) (ao : Option Addr) (n c : Nat) (bs : List Int) : Prop where
  len : bs.length = n
  some : 0 < n → ∃ b off, ao = some ⟨b, off, none⟩ ∧ ∀ j u, (cellsOf bs)[j]? = Option.some u → w.cell? ⟨b, off + j, none⟩ = Option.some u
  none : ao = Option.none → c = 0

/-- THE LAW's WALK, whatever the two slices. -/
theorem law_any (bo vo : Option Addr) (lb cb lv cv : Nat) (bs vs : List Int) (w : World) (hb : Seen w bo lb cb bs) (hv : Seen w vo lv cv vs) :
    Calls Ybaf.prog 3 #[.slice bo lb cb, .slice vo lv cv] w fun e w' => e = .returned (.bool true) ∧ Below w.heap.size w w' := by
  by_cases h1 : 1048576 < lb
  · exact law_long bo vo lb cb lv cv w h1
  by_cases h2 : 256 ≤ lv
  · exact law_wide bo vo lb cb lv cv w (by omega) h2
  by_cases h3 : lb = 0
  · by_cases h4 : lv = 0
    · exact law_BB lb cb lv cv bs vs w hb.len hv.len (by omega) (by omega) bo h3 vo h4 hv.none
    · obtain ⟨vb, voff, rfl, hcv⟩ := hv.some (by omega)
      exact law_BA lb cb vb voff lv cv bs vs w hb.len hv.len (by omega) (by omega) bo h3 hcv
  · obtain ⟨b, off, rfl, hcb⟩ := hb.some (by omega)
    by_cases h4 : lv = 0
    · exact law_AB b off lb cb lv cv bs vs w hb.len hv.len (by omega) (by omega) hcb vo h4 hv.none
    · obtain ⟨vb, voff, rfl, hcv⟩ := hv.some (by omega)
      exact law_AA b off lb cb vb voff lv cv bs vs w hb.len hv.len (by omega) (by omega) hcb hcv
end Go.Proofs.YbulkdlliFmt
