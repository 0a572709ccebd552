/-
  What the walk over (*index).makeRoom leans on: its end: 'clear(r.hs[len(full):])'.
-/
import Derived.Test.YbulkdljsMakeTwo
namespace Go.Proofs.Ybulkdljs
open Go.RowKit

/-- What makeRoom leaves. -/
def MkRes (w : World) (ρ : Nat → Nat) (X mb : Nat) (M : Nat → Option Nat) (L : Nat → List Chg) (pl : List Plc) (nb : Nat) (e : Ending) (w' : World) : Prop :=
  ∃ ρ' te V E ov tv ao vn vc rh rc ks vs, e = .returned (.tuple #[]) ∧ Fr (fun r => 100 ≤ r) ρ ρ' w w' ∧ Jx w' ρ' X mb M L pl nb te V E (fun _ => 0) ov tv (.slice ao vn vc) rh rc ∧ ((ao = none ∧ vn = 0 ∧ vc = 0 ∧ te = tv) ∨ (∃ g, ao = some ⟨g, 0, none⟩ ∧ te = .slice ao vn vc)) ∧
    Rq w' ρ' M E rh rc ks vs ∧ (∀ k hb, k < 5 → M k = some hb → k ∉ ks → E k = V k) ∧ ks.length ≤ 1048576

theorem clear_tail {w : World} {ah : Option Addr} {nk chh pn : Nat} {ys : List Value} (hw : w.ownsRow 0 45 1 (.slice ah nk chh) nk ys) (hp : pn ≤ nk) :
    ∃ (v : Value) (w' : World), (∀ W, (Instr.slice 31 (.slice ah nk chh) (some (.int .i64 (pn : Int))) none none).run Yba.prog W = .ok v W) ∧ (∀ ty, (Builtin.clear_ #[31] ty #[v]).run Yba.prog w = .ok (.tuple #[]) w') ∧
      w.grownBy w' (Value.slice ah nk chh).ownBlock ∧ w'.ownsRow 0 45 1 (.slice ah pn chh) pn (ys.take pn) := by
  have hel : Yba.prog.elem 31 = 45 := by simp [Program.elem, Yba.underlying31]
  have ht' : Yba.prog.underlying 31 = some (.slice (Yba.prog.elem 31)) := by rw [hel]; exact Yba.underlying31
  have hyl : ys.length = nk := by have := hw.1; omega
  have hsl : ∀ W, (Instr.slice 31 (.slice ah nk chh) (some (.int .i64 (pn : Int))) none none).run Yba.prog W = .ok (sliced ah pn nk chh 1) W := fun W => by
    rw [run_slice_l W 31 _ _ _ ht' .i64 _ (by omega) (by omega), hel, sizeOf45]
    simp [Result.andThen]
  have hg0 : w.grownBy w (Value.slice ah nk chh).ownBlock := ⟨rfl, rfl, rfl, Nat.le_refl _, fun _ _ _ => rfl⟩
  have hown : ∀ w' cur', w.grownBy w' (Value.slice ah nk chh).ownBlock → (∀ g, ah = some ⟨g, 0, none⟩ → w'.heap[g]? = some (.cells cur' 45 (0, 0)) ∧ cur'.size = chh ∧ nk ≤ chh ∧ chh ≤ maxLen ∧ cur'.toList.take pn = ys.take pn) → w'.ownsRow 0 45 1 (.slice ah pn chh) pn (ys.take pn) := fun w' cur' _ h => by
    rcases hw.2 with ⟨q, q2⟩ | ⟨g, cap, cur, q, _, hg, hnc, hcm, hcs, htk⟩
    · cases q
      obtain rfl : pn = 0 := by omega
      exact ⟨by simp, .inl ⟨rfl, rfl⟩⟩
    · cases q
      obtain ⟨h1, h2, h3, h4, h5⟩ := h g rfl
      exact ⟨by simp [hyl]; omega, .inr ⟨g, chh, cur', rfl, Nat.zero_le _, h1, by omega, h4, by omega, by rw [Nat.mul_one]; exact h5⟩⟩
  rcases Nat.lt_or_ge pn nk with hlt | hge
  · rcases hw.2 with ⟨q, q2⟩ | ⟨g, cap, cur, q, _, hg, hnc, hcm, hcs, htk⟩
    · omega
    · cases q
      have hv : sliced (some ⟨g, 0, none⟩) pn nk chh 1 = .slice (some ⟨g, pn, none⟩) (nk - pn) (chh - pn) := by
        by_cases h0 : pn = 0
        · subst h0; simp [sliced, Addr.add, show chh ≠ 0 by omega]
        · simp [sliced, Addr.add, h0]; omega
      have hr := fun ty => Lib.run_clear_slice (P := Yba.prog) w 31 45 ty (.pointer none) Yba.underlying31 zero45' rfl rfl g pn (nk - pn) (chh - pn) (by omega) (fun j hj => by rw [obj_cell hg]; simp; omega) (fun j _ => obj_frozen hg _)
      refine ⟨_, _, hsl, fun ty => by rw [hv]; exact hr ty, grown_sets _ _ _ _, hown _ (spl cur pn (List.replicate (nk - pn) (.pointer none))) (grown_sets _ _ _ _) (fun g' e => ?_)⟩
      cases e
      refine ⟨obj_sets _ _ _ _ hg, by rw [spl_size]; omega, hnc, hcm, ?_⟩
      apply List.ext_getElem?
      intro j
      rcases Nat.lt_or_ge j pn with hj | hj
      · rw [List.getElem?_take, if_pos hj, List.getElem?_take, if_pos hj, Array.getElem?_toList, spl_get _ _ _ _ (by simp; omega), if_neg (by omega), ← htk, List.getElem?_take, if_pos (by omega), Array.getElem?_toList]
      · rw [List.getElem?_take, if_neg (by omega), List.getElem?_take, if_neg (by omega)]
  · obtain rfl : pn = nk := by omega
    refine ⟨_, w, hsl, fun ty => ?_, hg0, ?_⟩
    · have hv : ∃ a c, sliced ah pn pn chh 1 = .slice a 0 c := by
        unfold sliced
        simp
      obtain ⟨a, c, hv⟩ := hv
      rw [hv]
      cases a <;> simp [Builtin.clear_, run_underlying Yba.underlying31]
    · rw [List.take_of_length_le (by omega)]
      exact hw

/-- The end of makeRoom. -/
theorem make_end {w : World} {ρ : Nat → Nat} {X mb : Nat} {M : Nat → Option Nat} {L : Nat → List Chg} {pl : List Plc} {nb : Nat} {te : Value} {V : Nat → Value} {ov tv : Value} {ao : Option Addr} {vn vc : Nat} {ah : Option Addr} {ch : Nat} {ks : List Nat} {wr : World} {ρr : Nat → Nat} {Rm : Nat → Int} {E : Nat → Value} {ps : List Nat} {vs ys : List Value} {rc : Value}
    (h : Mk2 w ρ X mb M L pl nb te V ov tv (.slice ao vn vc) ah ch ks ks.length wr ρr Rm E ps vs ys rc) (hte : (ao = none ∧ vn = 0 ∧ vc = 0 ∧ te = tv) ∨ (∃ g, ao = some ⟨g, 0, none⟩ ∧ te = .slice ao vn vc)) (hks : ks.length ≤ 1024) :
    ∃ (v : Value) (w8 : World), (∀ W, (Instr.slice 31 (.slice ah ks.length ch) (some (.int .i64 (ps.length : Int))) none none).run Yba.prog W = .ok v W) ∧ (∀ ty, (Builtin.clear_ #[31] ty #[v]).run Yba.prog wr = .ok (.tuple #[]) w8) ∧
      (w8.cell? ⟨X, 6, none⟩).isSome = true ∧ w8.frozen? ⟨X, 6, none⟩ = false ∧ MkRes w ρ X mb M L pl nb (.returned (.tuple #[])) (w8.setCell ⟨X, 6, none⟩ (.slice ah ps.length ch)) := by
  obtain ⟨v, w8, h1, h2, h3, h4⟩ := clear_tail h.hrow h.plen
  have f8 : Fr (fun r => r = 106) ρr ρr wr w8 := (Fr.refl _ ρr wr).grown h3 (fun g e => h.hrole g e)
  have J8 := h.jx.fr f8 (fun r h1 h2 h3 => h2)
  obtain ⟨f9, J9⟩ := J8.setX 6 (.slice ah ps.length ch) tv (.slice ao vn vc) (.slice ah ps.length ch) rc rfl
  have hR : Rm = fun _ => 0 := by
    funext k
    by_cases e : Rm k = 0
    · exact e
    · obtain ⟨j, hj, hk⟩ := h.mem k e
      have := (List.getElem?_eq_some_iff.1 hk).1
      omega
  have rh6 : ∀ g, (Value.slice ah ps.length ch).ownBlock = some g → ρr g = 106 := fun g hg => h.hrole g (by cases ah <;> exact hg)
  have hyl : ys.length = ks.length := by have := h.hrow.1; omega
  have hp := h.plen
  have hys : ys.take ps.length = ps.map fun k => ptrOf (M k) := by
    apply List.ext_getElem?
    intro j
    rcases Nat.lt_or_ge j ps.length with hj | hj
    · rw [List.getElem?_take, if_pos hj]
      exact h.ysP j hj
    · rw [List.getElem?_take, if_neg (by omega), List.getElem?_eq_none (by simp; omega)]
  rw [hys] at h4
  rw [hR] at J9
  refine ⟨v, w8, h1, h2, by rw [obj_cell J8.ho 6]; rfl, obj_frozen J8.ho 6, ρr, te, V, E, ov, tv, ao, vn, vc, _, rc, ps, vs, rfl, h.fr.trans ((f8.mono (fun r e => by omega)).trans (f9.mono (fun r e => by omega))), J9, hte, ⟨f9.owns h4 (fun g hg => by rw [rh6 g hg]; omega), rh6, f9.owns (f8.owns h.crow (fun g hg => by rw [h.crole g hg]; omega)) (fun g hg => by rw [h.crole g hg]; omega), h.crole, h.vlen, h.at'⟩, h.ev, by omega⟩
end Go.Proofs.Ybulkdljs
