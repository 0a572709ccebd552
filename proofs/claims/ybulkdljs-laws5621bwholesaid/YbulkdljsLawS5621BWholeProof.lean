/-
  The row of 'LawS5621BWhole' proved: the two slices of structs opened (nil, empty or not), the walk, the row.
-/
import Derived.Test.YbulkdljsRows
import Derived.Test.YbulkdljsLawWalk
import Derived.ProofKit
import Derived.ChangeSlices
import Derived.ChangeSame
import Derived.Carry
import Derived.OpenShut
import Derived.Deep.Slices
namespace Go.Proofs.Ybulkdljs
open Go.ChangeShapes Go.WideShapes Go.ChangeAt Go.RowKit

theorem own : ownKnob Yba.prog.godebug = none := by kernel_rfl
theorem laidOut : laidOutB Yba.pinned.checked.prog = true := by kernel_rfl
theorem cells2 : Yba.prog.cellsOf 2 = 1 := by kernel_rfl
theorem cells4 : Yba.prog.cellsOf 4 = 1 := by kernel_rfl
theorem cells5 : Yba.prog.cellsOf 5 = 1 := by kernel_rfl
theorem cells50 : Yba.prog.cellsOf 50 = 1 := by kernel_rfl
theorem cells43 : Yba.prog.cellsOf 43 = 4 := by kernel_rfl
theorem cells63 : Yba.prog.cellsOf 63 = 6 := by kernel_rfl

theorem u8_in {x : Int} (h : (Lit.int .u8 x).wf = true) : 0 ≤ x ∧ x ≤ 255 := by
  simp [Lit.wf, IntKind.min, IntKind.max, IntKind.signed, IntKind.bits] at h
  omega

/-- A slice's address lies at no spot: its first element's cells tell. -/
theorem no_spot {W : World} {a : Addr} {s : Nat} {cs : List Value} (h : W.cells? 0 (a.add (0 * s)) s = some cs) (hs : 0 < s) : ∃ b o, a = ⟨b, o, none⟩ := by
  obtain ⟨_, hl, hc⟩ := World.cells?_some h
  obtain ⟨b, o, spot⟩ := a
  obtain ⟨v, hv⟩ : ∃ v, cs[0]? = some v := ⟨_, List.getElem?_eq_getElem (by omega)⟩
  have h0 := hc 0 hs
  rw [hv] at h0
  have hspot : spot = none := by simpa [Addr.add] using World.cell?_spot h0
  subst hspot
  exact ⟨b, o, rfl⟩

/-- An element's cells, where the slice's address lies. -/
theorem elem_range {W : World} {b o s i : Nat} {cs : List Value} (h : W.cells? 0 ((⟨b, o, none⟩ : Addr).add (i * s)) s = some cs) : W.rangeAt b (o + i * s) cs := by
  obtain ⟨_, hl, hc⟩ := World.cells?_some h
  intro j v hj
  have := hc j (by have := (List.getElem?_eq_some_iff.1 hj).1; omega)
  rw [Go.Deep.add_add, add_plain, hj, ← Nat.add_assoc] at this
  exact this

set_option maxRecDepth 100000 in
theorem pre_seen {H : Type} {enc : TypeId × Value → H} {W : World} {ao : Option Addr} {n c : Nat} {d : DataW H} {p : List MemPlace}
    (h : DataW.Trod enc Yba.prog W 0 (fun _ => true) true 22 (.slice ao n c) d p) : ∃ ps ky, PreAt W ao n ps ky := by
  have hfin : (∀ i, i < n → ∃ q : Int × Int × Int × Int, (0 ≤ q.1 ∧ q.1 ≤ 255) ∧ ∃ b o, ao = some ⟨b, o, none⟩ ∧ W.rangeAt b (o + i * 4) [.int .u8 q.1, .int .i64 q.2.1, .int .i64 q.2.2.1, .int .i64 q.2.2.2]) → ∃ ps ky, PreAt W ao n ps ky := fun each => by
    obtain ⟨q, hq⟩ := Go.Deep.choose_lt each
    refine ⟨fun i => ⟨((if i < n then (q i).1 else 0) % 5).toNat, (q i).2.1, (q i).2.2.1, (q i).2.2.2⟩, fun i => if i < n then (q i).1 else 0, fun i hi => ?_, fun i => ?_⟩
    · obtain ⟨b, o, ha, hr⟩ := (hq i hi).2
      refine ⟨b, o, ha, ?_⟩
      simp only [if_pos hi]
      exact hr
    · by_cases hi : i < n
      · have := (hq i hi).1
        simp only [if_pos hi]
        omega
      · simp only [if_neg hi]
        omega
  obtain ⟨fuel, hf⟩ := h
  rcases Go.Deep.open_slice Yba.underlying22 hf with ⟨hcs, _⟩ | ⟨a, len, cap, m, k, D, Pl, hcs, _, hl, _, hm, _, hx⟩
  · simp [Value.cells] at hcs
    obtain ⟨rfl, rfl, rfl⟩ := hcs
    exact hfin (fun i hi => absurd hi (by omega))
  · simp [Value.cells] at hcs
    obtain ⟨rfl, rfl, rfl⟩ := hcs
    simp only [if_true] at hm
    refine hfin (fun i hi => ?_)
    obtain ⟨cs0, h10, _⟩ := hx 0 (by omega)
    obtain ⟨cs, h1, h2⟩ := hx i (by omega)
    rw [cells43] at h1 h10
    obtain ⟨b, o, ha⟩ := no_spot h10 (by decide)
    subst ha
    obtain ⟨_, hlen, _⟩ := World.cells?_some h1
    have hr := elem_range h1
    obtain ⟨xs, k', _, _, _, hxl, hff⟩ := DataW.trod_struct Yba.underlying43 h2
    match xs, hxl, cs, hlen with
    | [y0, y1, y2, y3], _, [v0, v1, v2, v3], _ =>
      have g0 := hff 0 _ rfl
      have g1 := hff 1 _ rfl
      have g2 := hff 2 _ rfl
      have g3 := hff 3 _ rfl
      simp [cells5] at g0
      simp [cells2] at g1 g2 g3
      obtain ⟨x0, e0, _, w0⟩ := DataW.trod_int Yba.underlying5 g0
      obtain ⟨x1, e1, _, _⟩ := DataW.trod_int Yba.underlying2 g1
      obtain ⟨x2, e2, _, _⟩ := DataW.trod_int Yba.underlying2 g2
      obtain ⟨x3, e3, _, _⟩ := DataW.trod_int Yba.underlying2 g3
      simp at e0 e1 e2 e3
      subst e0 e1 e2 e3
      exact ⟨(x0, x1, x2, x3), u8_in w0, b, o, rfl, hr⟩

set_option maxRecDepth 100000 in
theorem raw_seen {H : Type} {enc : TypeId × Value → H} {W : World} {ao : Option Addr} {n c : Nat} {d : DataW H} {p : List MemPlace}
    (h : DataW.Trod enc Yba.prog W 0 (fun _ => true) true 23 (.slice ao n c) d p) : ∃ rw' ky, RawAt W ao n rw' ky := by
  have hfin : (∀ i, i < n → ∃ q : Int × Bool × Int × Int × Int × Int, (0 ≤ q.1 ∧ q.1 ≤ 255) ∧ ∃ b o, ao = some ⟨b, o, none⟩ ∧ W.rangeAt b (o + i * 6) [.int .u8 q.1, .bool q.2.1, .int .i64 q.2.2.1, .int .i64 q.2.2.2.1, .int .u32 q.2.2.2.2.1, .int .u32 q.2.2.2.2.2]) → ∃ rw' ky, RawAt W ao n rw' ky := fun each => by
    obtain ⟨q, hq⟩ := Go.Deep.choose_lt each
    refine ⟨fun i => ⟨((if i < n then (q i).1 else 0) % 5).toNat, (q i).2.1, (q i).2.2.1, (q i).2.2.2.1, (q i).2.2.2.2.1, (q i).2.2.2.2.2⟩, fun i => if i < n then (q i).1 else 0, fun i hi => ?_, fun i => ?_⟩
    · obtain ⟨b, o, ha, hr⟩ := (hq i hi).2
      refine ⟨b, o, ha, ?_⟩
      simp only [if_pos hi]
      exact hr
    · by_cases hi : i < n
      · have := (hq i hi).1
        simp only [if_pos hi]
        omega
      · simp only [if_neg hi]
        omega
  obtain ⟨fuel, hf⟩ := h
  rcases Go.Deep.open_slice Yba.underlying23 hf with ⟨hcs, _⟩ | ⟨a, len, cap, m, k, D, Pl, hcs, _, hl, _, hm, _, hx⟩
  · simp [Value.cells] at hcs
    obtain ⟨rfl, rfl, rfl⟩ := hcs
    exact hfin (fun i hi => absurd hi (by omega))
  · simp [Value.cells] at hcs
    obtain ⟨rfl, rfl, rfl⟩ := hcs
    simp only [if_true] at hm
    refine hfin (fun i hi => ?_)
    obtain ⟨cs0, h10, _⟩ := hx 0 (by omega)
    obtain ⟨cs, h1, h2⟩ := hx i (by omega)
    rw [cells63] at h1 h10
    obtain ⟨b, o, ha⟩ := no_spot h10 (by decide)
    subst ha
    obtain ⟨_, hlen, _⟩ := World.cells?_some h1
    have hr := elem_range h1
    obtain ⟨xs, k', _, _, _, hxl, hff⟩ := DataW.trod_struct Yba.underlying63 h2
    match xs, hxl, cs, hlen with
    | [y0, y1, y2, y3, y4, y5], _, [v0, v1, v2, v3, v4, v5], _ =>
      have g0 := hff 0 _ rfl
      have g1 := hff 1 _ rfl
      have g2 := hff 2 _ rfl
      have g3 := hff 3 _ rfl
      have g4 := hff 4 _ rfl
      have g5 := hff 5 _ rfl
      simp [cells5] at g0
      simp [cells4] at g1
      simp [cells2] at g2 g3
      simp [cells50] at g4 g5
      obtain ⟨x0, e0, _, w0⟩ := DataW.trod_int Yba.underlying5 g0
      obtain ⟨x1, e1, _⟩ := DataW.trod_bool Yba.underlying4 g1
      obtain ⟨x2, e2, _, _⟩ := DataW.trod_int Yba.underlying2 g2
      obtain ⟨x3, e3, _, _⟩ := DataW.trod_int Yba.underlying2 g3
      obtain ⟨x4, e4, _, _⟩ := DataW.trod_int Yba.underlying50 g4
      obtain ⟨x5, e5, _, _⟩ := DataW.trod_int Yba.underlying50 g5
      simp at e0 e1 e2 e3 e4 e5
      subst e0 e1 e2 e3 e4 e5
      exact ⟨(x0, x1, x2, x3, x4, x5), u8_in w0, b, o, rfl, hr⟩

theorem law_any (rev : Int) (mu : Nat) (pa ra : Option Addr) (np pc nr qc : Nat) (ps : Nat → Pre) (ky : Nat → Int) (rw' : Nat → OpS) (kz : Nat → Int) (w : World) (hin : PreAt w pa np ps ky) (hraw : RawAt w ra nr rw' kz) (hmu : mu ≤ 255) :
    Calls Yba.prog 3 #[.int .i64 rev, .slice pa np pc, .slice ra nr qc, .int .u8 mu] w (LawRes w) := by
  by_cases h1 : 4096 < np
  · exact law_long rev mu pa ra np pc nr qc w (.inl h1)
  · by_cases h2 : 1024 < nr
    · exact law_long rev mu pa ra np pc nr qc w (.inr h2)
    · exact law_short rev mu pa ra np pc nr qc ps ky rw' kz w hin hraw (by omega) (by omega) hmu

set_option maxRecDepth 100000 in
theorem lifted (os : Os) (started : os.Started) (H : Type) (enc : TypeId × Value → H) :
    ReturnsInHanded {} Yba.checked os 3 .any (Rows.lawS5621BWholeSpec.pre6 enc Yba.prog Yba.f3 Rows.lawS5621BWholeRow.domain false) (Rows.lawS5621BWholeSpec.post enc Yba.prog Yba.f3 false true false false) := by
  refine returnsInHanded_of_change (C := Yba.checked) own started (by kernel_rfl) Yba.func3
    (ChangeSpec.witness6 (enc := enc) (C := Yba.checked) false ⟨#[], #[.int .i64 0, .slice none 0 0, .slice none 0 0, .int .u8 0], []⟩ 8 (by kernel_rfl) (by kernel_rfl) (by kernel_rfl) (by kernel_rfl)) ?_
  intro W base args ds gs before hval0 hW hcnd _
  have hval : ∀ (j : Nat) t v, Yba.f3.params[j]? = some t → args[j]? = some v → Value.okWide Yba.prog W .any base t v := hval0
  have hW' := hW
  obtain ⟨p, q, hA0, hV, rfl, hfz, hnd⟩ := hW
  have hA : DataW.TrodAll enc Yba.prog W 0 (fun _ => true) true Yba.f3.params.toList args.toList ds p := hA0
  rw [Yba.params3] at hA hval
  obtain ⟨v0, vs0, d0, ds0, p0, q0, hargs, rfl, rfl, h0, r0⟩ := trodAll_cons hA
  obtain ⟨v1, vs1, d1, ds1, p1, q1, rfl, rfl, rfl, h1, r1⟩ := trodAll_cons r0
  obtain ⟨v2, vs2, d2, ds2, p2, q2, rfl, rfl, rfl, h2, r2⟩ := trodAll_cons r1
  obtain ⟨v3, vs3, d3, ds3, p3, q3, rfl, rfl, rfl, h3, r3⟩ := trodAll_cons r2
  obtain ⟨rfl, rfl, rfl⟩ := trodAll_nil r3
  obtain rfl : args = #[v0, v1, v2, v3] := by cases args; simp_all
  obtain ⟨rfl, rfl⟩ := trodVars_none hV
  obtain ⟨a0, rfl, rfl, rfl, w0⟩ := open_int Yba.underlying2 (hval 0 2 v0 rfl rfl) h0
  obtain ⟨a1, l1, c1, rfl⟩ := okWide_slice Yba.underlying22 (hval 1 22 v1 rfl rfl)
  obtain ⟨a2, l2, c2, rfl⟩ := okWide_slice Yba.underlying23 (hval 2 23 v2 rfl rfl)
  obtain ⟨a3, rfl, rfl, rfl, w3⟩ := open_int Yba.underlying5 (hval 3 5 v3 rfl rfl) h3
  clear hA0 hval0
  simp only [List.append_nil] at hW'
  have hlt1 : ∀ x ∈ p1, x.block < W.heap.size := fun x hx => by simpa using hW'.lt x (by simp [hx])
  have hlt2 : ∀ x ∈ p2, x.block < W.heap.size := fun x hx => by simpa using hW'.lt x (by simp [hx])
  obtain ⟨ps, ky, hin⟩ := pre_seen h1
  obtain ⟨rw', kz, hraw⟩ := raw_seen h2
  obtain ⟨k, rfl, hk⟩ : ∃ k : Nat, a3 = (k : Int) ∧ k ≤ 255 := by
    have h := u8_in w3
    exact ⟨a3.toNat, by omega, by omega⟩
  refine (law_any a0 k a1 a2 l1 c1 l2 c2 ps ky rw' kz W hin hraw hk).mono fun e W' ⟨he, hnx⟩ => ?_
  subst he
  refine ⟨_, rfl, _, _, _, [], _, [], hW', ?_, trodAll_cons_mk (shut_int Yba.underlying2 w0) (trodAll_cons_mk (Below.trod laidOut (by kernel_rfl) (of_decide_eq_true (by kernel_rfl)) h1 hnx hlt1) (trodAll_cons_mk (Below.trod laidOut (by kernel_rfl) (of_decide_eq_true (by kernel_rfl)) h2 hnx hlt2) (trodAll_cons_mk (shut_int Yba.underlying5 w3) trodAll_mk0))), rfl, hnx.frame _, fun h => by cases h⟩
  exact trodAll_mk1 (shut_bool Yba.underlying4 _)

/-- ████ THE STATEMENT ████ -/
theorem proved : Rows.LawS5621BWholeSaid :=
  OpenClaim.holds_of_wide 3 Yba.f3 rfl rfl rfl rfl rfl rfl rfl ⟨rfl, rfl, rfl, rfl, rfl⟩ rfl rfl rfl rfl rfl (by kernel_rfl) Yba.func3 (by kernel_rfl)
    (of_decide_eq_true (by kernel_rfl)) (by unfold Func.isWrapper; first | (rw [if_pos (by decide +kernel)]; kernel_rfl) | (rw [if_neg (by decide +kernel)]; exact ⟨rfl, rfl⟩))
    (fun os started H enc _ => lifted os started H enc)
end Go.Proofs.Ybulkdljs
