/-
  A region that draws its order and whose LAST operation (it waits for all the others) writes a cell that another of its operations reads ('h.changes = append(h.changes, ..)'): the condition S on the world is asked behind every operation BUT THAT ONE.
-/
import Derived.Test.YbulkdljsBase
import Derived.OrdersHeld
import Derived.Deep.RegionHeld3
namespace Go.Proofs.Ybulkdljs
open Go.RowKit
variable {P : Program} {md : Region.Mode} {ops : Array Oper} {Q : Exit → Act → World → Prop} {S : World → Prop} {s : Nat}

/-- Whatever order is picked from here on, and S holds behind every operation that is carried out, but number s. -/
def wpAnyN (P : Program) (md : Region.Mode) (ops : Array Oper) (Q : Exit → Act → World → Prop) (S : World → Prop) (s : Nat) : Nat → Array Bool → Act → World → Prop
  | 0, listed, a, w => Region.ready md ops listed = [] ∧ Q .normal a w
  | fuel + 1, listed, a, w =>
    (Region.ready md ops listed = [] → Q .normal a w) ∧
    ∀ i ∈ Region.ready md ops listed, wpOp P ops Q i (fun a' w' => (i ≠ s → S w') ∧ wpAnyN P md ops Q S s fuel (listed.setIfInBounds i true) a' w') a w

theorem wpAny_of_N : ∀ (fuel : Nat) (listed : Array Bool) (a : Act) (w : World), wpAnyN P md ops Q S s fuel listed a w → wpAny P md ops Q fuel listed a w
  | 0, _, _, _, h => h
  | fuel + 1, _, _, _, h => ⟨h.1, fun i hi => wpOp_mono (fun a' w' h' => wpAny_of_N fuel _ a' w' h'.2) (h.2 i hi)⟩

/-- Number s waits for number i. -/
def waitsFor (md : Region.Mode) (ops : Array Oper) (s i : Nat) : Bool :=
  match ops[s]? with
  | some o => o.after.any fun e => Region.binds md e && e.on == i
  | none => false

theorem waitsFor.not {i : Nat} (h : waitsFor md ops s i = true) {listed : Array Bool} (hs : s ∈ Region.ready md ops listed) (hi : i ∈ Region.ready md ops listed) : False := by
  obtain ⟨_, o, ho, hall⟩ := mem_ready.1 hs
  have hk0 := (mem_ready.1 hi).1
  unfold waitsFor at h
  rw [ho] at h
  obtain ⟨e, he, hb⟩ := Array.any_eq_true'.1 h
  simp only [Bool.and_eq_true, beq_iff_eq] at hb
  have h2 := hall e he hb.1
  rw [hb.2] at h2
  rcases Nat.lt_or_ge i listed.size with h' | h'
  · simp [h'] at hk0 h2
    rw [hk0] at h2
    cases h2
  · simp [Array.getElem?_eq_none h'] at hk0

theorem wpAnyN_first {i : Nat} {oi : Oper} {v : Value} (hi : ops[i]? = some oi) (hsel : ∀ (j : Nat) (o : Oper) cs b, ops[j]? = some o → o.op ≠ .select cs b)
    (hQ : ∀ c a w, Q (.panic c) (a.put oi.dst v) w → Q (.panic c) a w) (hl : waitsFor md ops s i = true) :
    ∀ (fuel : Nat) (listed : Array Bool) (a : Act) (w : World),
      (∀ j oj, ops[j]? = some oj → j ≠ i → listed.getD j true = false → (∀ e ∈ oj.after, Region.binds md e = true → e.on ≠ i) → oi.apart ops oj = true) →
      i ∈ Region.ready md ops listed → YieldsIf P ops S oi v a → S w →
      wpAnyN P md ops Q S s fuel (listed.setIfInBounds i true) (a.put oi.dst v) w → wpAnyN P md ops Q S s (fuel + 1) listed a w := by
  intro fuel
  induction fuel with
  | zero =>
    intro listed a w _ hr hy hS H
    refine ⟨fun h => (by rw [h] at hr; cases hr), fun j hj => ?_⟩
    rcases Decidable.em (j = i) with rfl | hji
    · exact hy.wpOp hi hS ⟨fun _ => hS, H⟩
    · have hm := ready_mono hj hji
      rw [H.1] at hm
      cases hm
  | succ fuel ih =>
    intro listed a w hfree hr hy hS H
    refine ⟨fun h => (by rw [h] at hr; cases hr), fun j hj => ?_⟩
    rcases Decidable.em (j = i) with rfl | hji
    · exact hy.wpOp hi hS ⟨fun _ => hS, H⟩
    · have hjs : j ≠ s := fun e => by
        subst e
        exact waitsFor.not hl hj hr
      obtain ⟨hjun, oj, hoj, hall⟩ := mem_ready.1 hj
      have hnot : ∀ e ∈ oj.after, Region.binds md e = true → e.on ≠ i := fun e he hb heq => by
        have h1 := hall e he hb
        have h0 := (mem_ready.1 hr).1
        rw [heq] at h1
        rcases Nat.lt_or_ge i listed.size with h' | h'
        · simp [h'] at h0 h1
          rw [h0] at h1
          cases h1
        · simp [Array.getElem?_eq_none h'] at h1
      have h2 := wpOp_putIf hoj (hfree j oj hoj hji hjun hnot) (fun cs b => hsel i oi cs b hi) (fun cs b => hsel j oj cs b hoj) hQ hy (H.2 j (ready_mono hj hji))
      refine wpOp_mono (fun a' w' h3 => ⟨h3.2.1, ih (listed.setIfInBounds j true) a' w' (fun k ok hk hki hun hno => ?_) (ready_mono hr (Ne.symm hji)) h3.1 (h3.2.1 hjs) ?_⟩) h2
      · refine hfree k ok hk hki ?_ hno
        rcases Decidable.em (j = k) with rfl | hjk
        · exact hjun
        · rwa [getD_set_ne true hjk] at hun
      · rw [Array.setIfInBounds_comm _ _ hji]
        exact h3.2.2

theorem wpAnyN_take {i : Nat} {oi : Oper} {v : Value} {fuel : Nat} {listed : Array Bool} {a : Act} {w : World} (hl : waitsFor md ops s i = true) (hi : ops[i]? = some oi)
    (hs : Region.noSelect ops = true) (hf : Region.free md ops listed i = true) (hr : (Region.ready md ops listed).contains i = true)
    (hQ : ∀ c a w, Q (.panic c) (a.put oi.dst v) w → Q (.panic c) a w) (hw : Region.wanted oi (yielded ops a.tmps) = true) (hy : ∀ w, S w → (execOp a.eval oi).run P w = .ok (.value v) w) (hS : S w)
    (h : wpAnyN P md ops Q S s fuel (listed.setIfInBounds i true) (a.put oi.dst v) w) : wpAnyN P md ops Q S s (fuel + 1) listed a w :=
  wpAnyN_first hi (Region.noSelect_spec hs) hQ hl fuel listed a w (Region.free_spec hi hf) (by simpa using hr) (.inl ⟨hw, hy⟩) hS h

/-- One alone may come up. -/
theorem wpAnyN_one {i : Nat} {o : Oper} {fuel : Nat} {listed : Array Bool} {a : Act} {w : World} (hr : Region.ready md ops listed = [i]) (ho : ops[i]? = some o) (hw : Region.wanted o (yielded ops a.tmps) = true)
    (h : ∀ K : Act → World → Prop, Shut (∀ a' w', (i ≠ s → S w') → wpAnyN P md ops Q S s fuel (listed.setIfInBounds i true) a' w' → K a' w') → o.wp P a w K Q) : wpAnyN P md ops Q S s (fuel + 1) listed a w := by
  refine ⟨fun h0 => (by rw [hr] at h0; cases h0), fun j hj => ?_⟩
  rw [hr] at hj
  obtain rfl : j = i := by simpa using hj
  unfold wpOp
  simp only [ho, hw, if_true]
  exact .inl (h _ (fun a' w' h1 h2 => ⟨h1, h2⟩))

theorem wpAnyN_done {listed : Array Bool} {a : Act} {w : World} (hr : Region.ready md ops listed = []) (h : Q .normal a w) : ∀ fuel, wpAnyN P md ops Q S s fuel listed a w
  | 0 => ⟨hr, h⟩
  | _ + 1 => ⟨fun _ => h, by rw [hr]; simp⟩

theorem wp_region_N {id : Nat} {a : Act} {w : World} (S : World → Prop) (s : Nat) (hm : P.follows .mixedOrders = true)
    (h : wpAnyN P .any ops Q S s ops.size (Array.replicate ops.size false) a w.drew) : (Code.region id ops true).wp P Q a w :=
  wp_region_any hm (wpAny_of_N _ _ _ _ h)

end Go.Proofs.Ybulkdljs
