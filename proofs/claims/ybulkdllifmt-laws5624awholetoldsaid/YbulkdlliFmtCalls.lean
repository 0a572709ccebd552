/-
  The walk over wire.go's AppendVector8, v of fewer than 256 bytes, b a row of the caller's own with no spare room.
-/
import Derived.Test.YbulkdlliFmtRows
import Derived.WalkKit
import Derived.WalkSpells
import Derived.WalkLawsBesides
namespace Go.Proofs.YbulkdlliFmt
open Go.RowKit

theorem info5 : (Ybaf.prog.info? 5).map (fun i => (i.zero, i.size, i.bytes)) = some (some (.int .u8 0), 1, 1) := by kernel_rfl

/-- A list of bytes as cells. -/
def cellsOf (bs : List Int) : List Value := bs.map (Value.int .u8)
theorem cellsOf_length (bs : List Int) : (cellsOf bs).length = bs.length := by simp [cellsOf]
theorem cellsOf_one (bs : List Int) : ∀ u ∈ cellsOf bs, u.oneCell' = true := ints_oneCell .u8 bs

set_option maxRecDepth 100000 in
set_option maxHeartbeats 400000 in
/-- v has an address. -/
theorem av_some (g lb lv cv : Nat) (bs vs : List Int) (ad : Addr) (w : World) (hb : bs.length = lb) (hv : vs.length = lv) (h1 : lb ≤ 1048576) (h2 : lv < 256)
    (hgb : ∀ j u, (cellsOf bs)[j]? = some u → w.cell? ((⟨g, 0, none⟩ : Addr).add j) = some u)
    (hgv : ∀ j u, (cellsOf vs)[j]? = some u → w.cell? (ad.add j) = some u) :
    Calls Ybaf.prog 4 #[.slice (some ⟨g, 0, none⟩) lb lb, .slice (some ad) lv cv] w fun e w' => ∃ v', e = .returned v' ∧ w'.ownsRow (w.heap.size + 1) 5 1 v' (lb + 1 + lv) (cellsOf bs ++ .int .u8 lv :: cellsOf vs) ∧ Below w.heap.size w w' := by
  obtain ⟨i0, hi, hz0, hz1, hz2⟩ := info_parts info5
  have hb1 : ∀ o, Below w.heap.size w (w.alloc o) := fun o => (Below.refl _ w).alloc (Nat.le_refl _) o
  go_enter Ybaf.func4, Ybaf.ntmps4
  go_wp2_with (at_builtin; refine wpList_append_grows _ rfl (.tmp 14) (.tmp 18) 22 rfl 5 i0 (.int .u8 0) 1 1 Ybaf.underlying22 hi hz0 hz1 hz2 rfl (by decide) (some ⟨g, 0, none⟩) lb lb (cellsOf bs) rfl (by simp) (by simp [cellsOf_length, hb]) ?olds ⟨w.heap.size, 0, none⟩ 1 1 [.int .u8 lv] rfl rfl (cell_one_new _ _ _) ?one (by omega) (by unfold maxLen; omega) (by omega) ?_)
  case olds =>
    intro b hb' j u hj
    obtain rfl := Option.some.inj hb'
    exact cell_later (hb1 _) (hgb j u hj)
  case one => intro u hu; simp at hu; subst hu; rfl
  intro v1 w1 hown1 hgrow1
  have hbel1 : Below w.heap.size w w1 := (hb1 _).grown hgrow1 (by simp) (by intro k hk; cases hk)
  have hsz : w.heap.size + 1 ≤ w1.heap.size := by have := hgrow1.size; simp at this; omega
  go_wp2_with (at_builtin; refine wpList_append_own _ rfl (.tmp 19) (.tmp 20) 22 rfl (w.heap.size + 1) 5 i0 (.int .u8 0) 1 1 Ybaf.underlying22 hi hz0 hz1 hz2 rfl (by decide) v1 (lb + 1) (cellsOf bs ++ [.int .u8 lv]) rfl hown1 ad lv cv (cellsOf vs) rfl (by simp [cellsOf_length, hv]) ?news (cellsOf_one vs) (by unfold maxLen; omega) (by omega) hsz ?_)
  case news => exact fun j u hj => cell_later hbel1 (hgv j u hj)
  intro v2 w2 hown2 hgrow2 _
  have hbel2 : Below w.heap.size w w2 := hbel1.grown hgrow2 (by omega) (fun k hk => by have := (hown1.lt k hk).1; omega)
  go_wp2
  go_ret
  exact ⟨v2, rfl, hown2, hbel2⟩

/-- 'append(out, nil...)', out a row of the call's own: nothing turns. -/
theorem wpList_append_none {P : Program} (w : World) {ops : Array Oper} {rest : List Oper} {o : Oper} {a : Act} {Q : Exit → Act → World → Prop}
    (hg : o.guard = none) (s x : Operand) (t : TypeId) (hop : o.op = Op.call { callee := Callee.builtin Builtin.append, args := #[s, x], argTypes := #[t, t] })
    (base : Nat) (e : TypeId) (i : TypeInfo) (size : Nat) (h1 : P.underlying t = some (.slice e)) (h2 : P.info? e = some i)
    (v : Value) (n : Nat) (xs : List Value) (hs : a.eval s = v) (hown : w.ownsRow base e size v n xs) (hx : a.eval x = .slice none 0 0)
    (hK : wpList P ops Q rest (a.put o.dst v) w) : wpList P ops Q (o :: rest) a w := by
  refine wpList_plain hg fun K hK' => ?_
  have hrun := run_append_owned_none (P := P) w base t o.type e i size h1 h2 v n xs hown
  unfold Oper.wp
  simp [execOp, hop, resolve, invoke, builtin, hs, hx, hrun, Result.andThen]
  exact hK' _ _ hK

set_option maxRecDepth 100000 in
set_option maxHeartbeats 400000 in
/-- v is nil. -/
theorem av_nil (g lb : Nat) (bs : List Int) (w : World) (hb : bs.length = lb) (h1 : lb ≤ 1048576)
    (hgb : ∀ j u, (cellsOf bs)[j]? = some u → w.cell? ((⟨g, 0, none⟩ : Addr).add j) = some u) :
    Calls Ybaf.prog 4 #[.slice (some ⟨g, 0, none⟩) lb lb, .slice none 0 0] w fun e w' => ∃ v', e = .returned v' ∧ w'.ownsRow (w.heap.size + 1) 5 1 v' (lb + 1) (cellsOf bs ++ [.int .u8 0]) ∧ Below w.heap.size w w' := by
  obtain ⟨i0, hi, hz0, hz1, hz2⟩ := info_parts info5
  have hb1 : ∀ o, Below w.heap.size w (w.alloc o) := fun o => (Below.refl _ w).alloc (Nat.le_refl _) o
  go_enter Ybaf.func4, Ybaf.ntmps4
  go_wp2_with (at_builtin; refine wpList_append_grows _ rfl (.tmp 14) (.tmp 18) 22 rfl 5 i0 (.int .u8 0) 1 1 Ybaf.underlying22 hi hz0 hz1 hz2 rfl (by decide) (some ⟨g, 0, none⟩) lb lb (cellsOf bs) rfl (by simp) (by simp [cellsOf_length, hb]) ?olds ⟨w.heap.size, 0, none⟩ 1 1 [.int .u8 0] rfl rfl (cell_one_new _ _ _) ?one (by omega) (by unfold maxLen; omega) (by omega) ?_)
  case olds =>
    intro b hb' j u hj
    obtain rfl := Option.some.inj hb'
    exact cell_later (hb1 _) (hgb j u hj)
  case one => intro u hu; simp at hu; subst hu; rfl
  intro v1 w1 hown1 hgrow1
  have hbel1 : Below w.heap.size w w1 := (hb1 _).grown hgrow1 (by simp) (by intro k hk; cases hk)
  go_wp2_with (at_builtin; refine wpList_append_none _ rfl (.tmp 19) (.tmp 20) 22 rfl (w.heap.size + 1) 5 i0 1 Ybaf.underlying22 hi v1 (lb + 1) (cellsOf bs ++ [.int .u8 0]) rfl hown1 rfl ?_)
  go_ret
  exact ⟨v1, rfl, hown1, hbel1⟩

/-- AppendVector8, whatever v of fewer than 256 bytes. -/
theorem av_any (g lb lv cv : Nat) (bs vs : List Int) (vo : Option Addr) (w : World) (hb : bs.length = lb) (hv : vs.length = lv) (h1 : lb ≤ 1048576) (h2 : lv < 256) (hn : vo = none → lv = 0 ∧ cv = 0)
    (hgb : ∀ j u, (cellsOf bs)[j]? = some u → w.cell? ((⟨g, 0, none⟩ : Addr).add j) = some u)
    (hgv : ∀ ad, vo = some ad → ∀ j u, (cellsOf vs)[j]? = some u → w.cell? (ad.add j) = some u) :
    Calls Ybaf.prog 4 #[.slice (some ⟨g, 0, none⟩) lb lb, .slice vo lv cv] w fun e w' => ∃ h cap, e = .returned (.slice (some ⟨h, 0, none⟩) (lb + 1 + lv) cap) ∧ w.heap.size < h ∧ lb + 1 + lv ≤ cap ∧ Below w.heap.size w w' ∧
      ∀ j u, (cellsOf bs ++ .int .u8 lv :: cellsOf vs)[j]? = some u → w'.cell? ⟨h, j, none⟩ = some u := by
  have fin : ∀ (e : Ending) (w' : World), (∃ v', e = .returned v' ∧ w'.ownsRow (w.heap.size + 1) 5 1 v' (lb + 1 + lv) (cellsOf bs ++ .int .u8 lv :: cellsOf vs) ∧ Below w.heap.size w w') →
      ∃ h cap, e = .returned (.slice (some ⟨h, 0, none⟩) (lb + 1 + lv) cap) ∧ w.heap.size < h ∧ lb + 1 + lv ≤ cap ∧ Below w.heap.size w w' ∧
      ∀ j u, (cellsOf bs ++ .int .u8 lv :: cellsOf vs)[j]? = some u → w'.cell? ⟨h, j, none⟩ = some u := by
    rintro e w' ⟨v', rfl, hown, hbel⟩
    rcases hown.2 with ⟨_, h0⟩ | ⟨h, cap, cur, rfl, hg, _, hc, _⟩
    · omega
    · refine ⟨h, cap, rfl, by omega, hc, hbel, fun j u hj => ?_⟩
      have := hown.cells (g := h) rfl j u hj
      rwa [Addr.add_lit, Nat.zero_add] at this
  cases vo with
  | some ad => exact (av_some g lb lv cv bs vs ad w hb hv h1 h2 hgb (hgv ad rfl)).mono fin
  | none =>
    obtain ⟨rfl, rfl⟩ := hn rfl
    obtain rfl : vs = [] := List.eq_nil_of_length_eq_zero hv
    exact (av_nil g lb bs w hb h1 hgb).mono fin
end Go.Proofs.YbulkdlliFmt
