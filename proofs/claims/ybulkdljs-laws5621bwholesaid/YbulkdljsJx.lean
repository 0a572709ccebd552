/-
  The index between makeRoom and takeRoom: the timeline's blocks and the histories' changes may lie in the room; slices.Grow at []change.
-/
import Derived.Test.YbulkdljsApply
import Derived.Shelf.Spec.SlicesGrow
import Derived.Ground.Names8Prog
namespace Go.Proofs
shelf_lay_g Lays8.n4 Nm8 4 at Yba 16 as Yba.growC
end Go.Proofs
namespace Go.Proofs.Ybulkdljs
open Go.RowKit

theorem grow_f : Yba.growC_ren.f 4 = 16 := by kernel_rfl
theorem grow_t : Yba.growC_ren.t 25 = 56 := by kernel_rfl

/-- What slices.Grow leaves of a full slice of changes: a row of its own. -/
def GRes (w : World) (n : Nat) (xs : List Value) (e : Ending) (w' : World) : Prop :=
  ∃ cap, e = .returned (.slice (some ⟨w.heap.size, 0, none⟩) n cap) ∧ Below w.heap.size w w' ∧ w.heap.size < w'.heap.size ∧ w'.ownsRow 0 56 24 (.slice (some ⟨w.heap.size, 0, none⟩) n cap) n xs

theorem grow_any (ao : Option Addr) (n cap m : Nat) (xs : List Value) (w : World) (hw : w.ownsRow 0 56 24 (.slice ao n cap) n xs) (hfull : cap < n + m) (hnm : n + m ≤ 2097152) : Calls Yba.prog 16 #[.slice ao n cap, .int .i64 m] w (GRes w n xs) := by
  obtain ⟨i0, hi, hz0, hz1, hz2⟩ := info_parts info56z
  have hlen : xs.length = n * 24 := hw.1
  have key : ∀ (cs : List Value), n ≤ cap → cs.length = cap * 24 → cs.take (n * 24) = xs → (ao = none → cap = 0) → (∀ a, ao = some a → ∀ j v, cs[j]? = some v → w.cell? (a.add j) = some v) → Calls Yba.prog 16 #[.slice ao n cap, .int .i64 m] w (GRes w n xs) := fun cs hnc hcl htk hnil hcc => by
    have h := Any8.slices_Grow_grow Yba.growC i0 (.agg (chgA 0 0 0 0 0 0 0 0)) (by rw [grow_t]; exact hi) hz0 (by omega) ao n cap m cs w hnc hfull (by rw [hz2]; omega) (by omega) (by rw [hz1]; exact hcl) hnil hcc
    rw [grow_f, grow_t] at h
    refine h.mono ?_
    rintro e w' ⟨rfl, rfl⟩
    have hG := grownCap_ge w (n + m) cap 56
    have hGm := grownCap_le_maxLen w (n + m) cap 56 (by unfold maxLen; omega)
    refine ⟨_, rfl, Below.alloc (Below.refl _ _).drew (Nat.le_refl _) _, ?_, ⟨hlen, .inr ⟨_, _, _, rfl, Nat.zero_le _, heapN w.drew _ _ rfl, by omega, hGm, ?_, ?_⟩⟩⟩
    · show w.heap.size < (w.drew.alloc _).heap.size
      rw [World.size_alloc]
      exact Nat.lt_succ_self _
    · simp [Builtin.zeroCells, Value.cells, hcl]
      omega
    · rw [← htk]
      simp only [Array.append_assoc, Array.toList_append]
      rw [List.take_append_of_le_length (by rw [hcl]; exact Nat.mul_le_mul_right _ hnc)]
  rcases hw.2 with ⟨h1, h2⟩ | ⟨g, cap', cur, h1, _, hg, hnc, hcm, hcs, htk⟩
  · cases h1
    refine key [] (Nat.le_refl _) rfl ?_ (fun _ => rfl) (fun a ha => by cases ha)
    have : xs = [] := List.length_eq_zero_iff.1 (by omega)
    rw [this]
    rfl
  · cases h1
    refine key cur.toList hnc (by simpa using hcs) htk (fun h => by cases h) (fun a ha j v hv => ?_)
    cases ha
    rw [Addr.add_lit, Nat.zero_add, obj_cell hg]
    simpa using hv

/-! ### The index, its room in use -/
structure Jx (w : World) (ρ : Nat → Nat) (X mb : Nat) (M : Nat → Option Nat) (L : Nat → List Chg) (pl : List Plc) (nb : Nat) (te : Value) (V E : Nat → Value) (Rm : Nat → Int) (ov tv rb rh rc : Value) : Prop where
  rx : ρ X = 100
  rm : ρ mb = 101
  map : MapIs w mb M
  tidy : ∀ b, w.heap.size ≤ b → ρ b = 0
  non : ∀ k, k < 5 → M k = none → L k = []
  ho : objAt w X = some (.cells #[.map (some mb), ov, tv, .int .i64 (pl.length : Int), .bool false, rb, rh, rc] 36 (0, 0))
  ord : ∃ n, Ord w ρ (InM M) ov n ∧ n ≤ count M
  tl : ∃ bl, TL w ρ te bl pl ∧ bl.length = nb
  hr : ∀ k hb, k < 5 → M k = some hb → ρ hb = 110 + k
  hob : ∀ k hb, k < 5 → M k = some hb → objAt w hb = some (.cells #[.string (keyS k), V k, .int .i64 (Rm k)] 47 (0, 0))
  hw : ∀ k hb, k < 5 → M k = some hb → w.ownsRow 0 56 24 (E k) (L k).length (chgs (L k))
  hg : ∀ k hb, k < 5 → M k = some hb → ∀ g, (E k).ownBlock = some g → ρ g = 120 + k

/-- What touches rows of the room alone (106, 107), or nothing of the index, leaves it. -/
theorem Jx.fr {S : Nat → Prop} {w w' : World} {ρ ρ' : Nat → Nat} {X mb : Nat} {M : Nat → Option Nat} {L : Nat → List Chg} {pl : List Plc} {nb : Nat} {te : Value} {V E : Nat → Value} {Rm : Nat → Int} {ov tv rb rh rc : Value}
    (h : Jx w ρ X mb M L pl nb te V E Rm ov tv rb rh rc) (f : Fr S ρ ρ' w w') (hS : ∀ r, 100 ≤ r → r ≠ 106 → r ≠ 107 → ¬ S r) : Jx w' ρ' X mb M L pl nb te V E Rm ov tv rb rh rc := by
  obtain ⟨n, hO, hn⟩ := h.ord
  obtain ⟨bl, hT, hl⟩ := h.tl
  exact ⟨(f.role _ (obj_lt h.ho)).trans h.rx, (f.role _ h.map.lt).trans h.rm, h.map.fr f (by rw [h.rm]; exact hS _ (by omega) (by omega) (by omega)), f.tidy h.tidy, h.non, f.obj h.ho (by rw [h.rx]; exact hS _ (by omega) (by omega) (by omega)),
    ⟨n, hO.fr f (hS _ (by omega) (by omega) (by omega)) (hS _ (by omega) (by omega) (by omega)) (fun _ h => h), hn⟩, ⟨bl, hT.fr f (hS _ (by omega) (by omega) (by omega)) (fun i => hS _ (by omega) (by omega) (by omega)), hl⟩,
    fun k hb hk hM => (f.role _ (obj_lt (h.hob k hb hk hM))).trans (h.hr k hb hk hM), fun k hb hk hM => f.obj (h.hob k hb hk hM) (by rw [h.hr k hb hk hM]; exact hS _ (by omega) (by omega) (by omega)),
    fun k hb hk hM => f.owns (h.hw k hb hk hM) (fun g hg => by rw [h.hg k hb hk hM g hg]; exact hS _ (by omega) (by omega) (by omega)), fun k hb hk hM => f.roleOf (h.hw k hb hk hM) (h.hg k hb hk hM)⟩

/-- Of x's cells one is other now. -/
theorem Jx.setX {w : World} {ρ : Nat → Nat} {X mb : Nat} {M : Nat → Option Nat} {L : Nat → List Chg} {pl : List Plc} {nb : Nat} {te : Value} {V E : Nat → Value} {Rm : Nat → Int} {ov tv rb rh rc : Value}
    (h : Jx w ρ X mb M L pl nb te V E Rm ov tv rb rh rc) (i : Nat) (u : Value) (tv' rb' rh' rc' : Value) (he : (#[.map (some mb), ov, tv, .int .i64 (pl.length : Int), .bool false, rb, rh, rc] : Array Value).setIfInBounds i u = #[.map (some mb), ov, tv', .int .i64 (pl.length : Int), .bool false, rb', rh', rc']) :
    Fr (fun r => r = 100) ρ ρ w (w.setCell ⟨X, i, none⟩ u) ∧ Jx (w.setCell ⟨X, i, none⟩ u) ρ X mb M L pl nb te V E Rm ov tv' rb' rh' rc' := by
  have f : Fr (fun r => r = 100) ρ ρ w (w.setCell ⟨X, i, none⟩ u) := (Fr.refl _ ρ w).setCell (a := ⟨X, i, none⟩) h.rx _
  obtain ⟨n, hO, hn⟩ := h.ord
  obtain ⟨bl, hT, hl⟩ := h.tl
  refine ⟨f, h.rx, h.rm, h.map.fr f (by rw [h.rm]; omega), f.tidy h.tidy, h.non, ?_, ⟨n, hO.fr f (by omega) (by omega) (fun _ h => h), hn⟩, ⟨bl, hT.fr f (by omega) (fun i => by omega), hl⟩, h.hr,
    fun k hb hk hM => f.obj (h.hob k hb hk hM) (by rw [h.hr k hb hk hM]; omega), fun k hb hk hM => f.owns (h.hw k hb hk hM) (fun g hg => by rw [h.hg k hb hk hM g hg]; omega), h.hg⟩
  rw [← he]
  exact obj_set h.ho i u

/-- Of a history's cells one is other now. -/
theorem Jx.setH {w : World} {ρ : Nat → Nat} {X mb : Nat} {M : Nat → Option Nat} {L : Nat → List Chg} {pl : List Plc} {nb : Nat} {te : Value} {V E : Nat → Value} {Rm : Nat → Int} {ov tv rb rh rc : Value}
    (h : Jx w ρ X mb M L pl nb te V E Rm ov tv rb rh rc) {k hb : Nat} (hk : k < 5) (hM : M k = some hb) (i : Nat) (u v' : Value) (r' : Int) (he : (#[.string (keyS k), V k, .int .i64 (Rm k)] : Array Value).setIfInBounds i u = #[.string (keyS k), v', .int .i64 r']) :
    Fr (fun r => r = 110 + k) ρ ρ w (w.setCell ⟨hb, i, none⟩ u) ∧ Jx (w.setCell ⟨hb, i, none⟩ u) ρ X mb M L pl nb te (fun j => if j = k then v' else V j) E (fun j => if j = k then r' else Rm j) ov tv rb rh rc := by
  have f : Fr (fun r => r = 110 + k) ρ ρ w (w.setCell ⟨hb, i, none⟩ u) := (Fr.refl _ ρ w).setCell (a := ⟨hb, i, none⟩) (h.hr k hb hk hM) _
  obtain ⟨n, hO, hn⟩ := h.ord
  obtain ⟨bl, hT, hl⟩ := h.tl
  refine ⟨f, h.rx, h.rm, h.map.fr f (by rw [h.rm]; omega), f.tidy h.tidy, h.non, f.obj h.ho (by rw [h.rx]; omega), ⟨n, hO.fr f (by omega) (by omega) (fun _ h => h), hn⟩, ⟨bl, hT.fr f (by omega) (fun i => by omega), hl⟩, h.hr,
    fun j c hj hc => ?_, fun j c hj hc => f.owns (h.hw j c hj hc) (fun g hg => by rw [h.hg j c hj hc g hg]; omega), h.hg⟩
  by_cases e : j = k
  · subst e
    rw [hM] at hc
    cases hc
    simp only [if_true]
    rw [← he]
    exact obj_set (h.hob j hb hj hM) i u
  · simp only [if_neg e]
    exact f.obj (h.hob j c hj hc) (by rw [h.hr j c hj hc]; omega)

theorem Ix.toJ {w : World} {ρ : Nat → Nat} {X mb : Nat} {M : Nat → Option Nat} {L : Nat → List Chg} {pl : List Plc} {nb : Nat} {rb rh rc : Value} (h : Ix w ρ X mb M L pl nb rb rh rc) :
    ∃ V ov tv, Jx w ρ X mb M L pl nb tv V V (fun _ => 0) ov tv rb rh rc := by
  obtain ⟨rx, rm, map, his, non, tidy, ov, tv, bl, n, ho, hT, hl, hO, hn⟩ := h
  have hch : ∀ k, ∃ v, ∀ hb, k < 5 → M k = some hb → objAt w hb = some (.cells #[.string (keyS k), v, .int .i64 0] 47 (0, 0)) ∧ w.ownsRow 0 56 24 v (L k).length (chgs (L k)) ∧ ∀ g, v.ownBlock = some g → ρ g = 120 + k := fun k => by
    by_cases hk : k < 5
    · cases hM : M k with
      | none => exact ⟨.pointer none, fun hb _ h => by cases h⟩
      | some b =>
        obtain ⟨v, h1⟩ := (his k b hk hM).ex
        exact ⟨v, fun hb _ h => by cases h; exact h1⟩
    · exact ⟨.pointer none, fun hb h => absurd h hk⟩
  refine ⟨fun k => Classical.choose (hch k), ov, tv, rx, rm, map, tidy, non, ho, ⟨n, hO, hn⟩, ⟨bl, hT, hl⟩, fun k hb hk hM => (his k hb hk hM).role, fun k hb hk hM => (Classical.choose_spec (hch k) hb hk hM).1, fun k hb hk hM => (Classical.choose_spec (hch k) hb hk hM).2.1, fun k hb hk hM => (Classical.choose_spec (hch k) hb hk hM).2.2⟩

theorem Jx.toI {w : World} {ρ : Nat → Nat} {X mb : Nat} {M : Nat → Option Nat} {L : Nat → List Chg} {pl : List Plc} {nb : Nat} {V E : Nat → Value} {Rm : Nat → Int} {ov tv rb rh rc : Value} (h : Jx w ρ X mb M L pl nb tv V E Rm ov tv rb rh rc) (hV : ∀ k hb, k < 5 → M k = some hb → E k = V k) (hR : ∀ k hb, k < 5 → M k = some hb → Rm k = 0) :
    Ix w ρ X mb M L pl nb rb rh rc := by
  obtain ⟨n, hO, hn⟩ := h.ord
  obtain ⟨bl, hT, hl⟩ := h.tl
  refine ⟨h.rx, h.rm, h.map, fun k hb hk hM => ⟨h.hr k hb hk hM, V k, ?_, ?_, ?_⟩, h.non, h.tidy, ov, tv, bl, n, h.ho, hT, hl, hO, hn⟩
  · have := h.hob k hb hk hM
    rw [hR k hb hk hM] at this
    exact this
  · rw [← hV k hb hk hM]; exact h.hw k hb hk hM
  · rw [← hV k hb hk hM]; exact h.hg k hb hk hM
end Go.Proofs.Ybulkdljs
