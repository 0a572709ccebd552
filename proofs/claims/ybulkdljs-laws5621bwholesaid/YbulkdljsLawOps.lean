/-
  What the walk over LawS5621BWhole's second loop leans on: the transaction's rows as they are filled.
-/
import Derived.Test.YbulkdljsLoop1
import Derived.Laws.IdiomStrings
namespace Go.Proofs.Ybulkdljs
open Go.RowKit

/-- '[]byte(key)'. -/
theorem conv_key (k : Nat) (w : World) : ∃ cap w', (convert 9 65 (.string (keyS k))).run Yba.prog w = .ok (.slice (some ⟨w.heap.size, 0, none⟩) (keyS k).data.toList.length cap) w' ∧ Below w.heap.size w w' ∧ w.heap.size < w'.heap.size ∧ KeyAt w' (.slice (some ⟨w.heap.size, 0, none⟩) (keyS k).data.toList.length cap) k := by
  have h := run_bytes_of_string (P := Yba.prog) w 9 65 _ (keyS k) Yba.underlying9 Yba.underlying65 (by kernel_rfl)
  have e : (keyS k).size = (keyS k).data.toList.length := rfl
  rw [e] at h
  refine ⟨_, _, h, Below.alloc (Below.refl _ _).drew (Nat.le_refl _) _, ?_, _, _, rfl, fun j hj => ?_⟩
  · show w.heap.size < (w.drew.alloc _).heap.size
    rw [World.size_alloc]
    exact Nat.lt_succ_self _
  · have hj' : j < (keyS k).data.size := by simpa using hj
    refine Eq.trans (obj_cell (b := w.heap.size) (heapN w.drew _ w.heap.size rfl) j) ?_
    rw [bytesRow_at (keyS k) _ j hj']
    simp

/-- The transaction's rows, the first i filled. -/
structure Rows2 (w : World) (ρ : Nat → Nat) (ob vb n i : Nat) (os : Nat → OpS) : Prop where
  ops : OpsAt w ρ ob vb i os
  oO : ∃ cur, objAt w ob = some (.cells cur 70 (0, 0)) ∧ cur.size = n * 13
  oV : ∃ cur, objAt w vb = some (.cells cur 54 (0, 0)) ∧ cur.size = n * 19
  rO : ρ ob = 5
  rV : ρ vb = 6

theorem Rows2.fr {S : Nat → Prop} {w w' : World} {ρ ρ' : Nat → Nat} {ob vb n i : Nat} {os : Nat → OpS} (h : Rows2 w ρ ob vb n i os) (f : Fr S ρ ρ' w w') (h0 : ¬ S 0) (h5 : ¬ S 5) (h6 : ¬ S 6) : Rows2 w' ρ' ob vb n i os := by
  obtain ⟨co, ho, hso⟩ := h.oO
  obtain ⟨cv, hv, hsv⟩ := h.oV
  have so : ¬ S (ρ ob) := by rw [h.rO]; exact h5
  have sv : ¬ S (ρ vb) := by rw [h.rV]; exact h6
  have rO' : ρ' ob = 5 := (f.role _ (obj_lt ho)).trans h.rO
  have rV' : ρ' vb = 6 := (f.role _ (obj_lt hv)).trans h.rV
  refine ⟨⟨fun j hj => ?_, fun j hj => f.range (h.ops.val j hj) sv, ⟨Nat.lt_of_lt_of_le (obj_lt ho) f.size, by omega⟩, ⟨Nat.lt_of_lt_of_le (obj_lt hv) f.size, by omega⟩⟩, ⟨co, f.obj ho so, hso⟩, ⟨cv, f.obj hv sv, hsv⟩, rO', rV'⟩
  obtain ⟨hk, kv, hr, hka, hkr⟩ := h.ops.op j hj
  exact ⟨hk, kv, f.range hr so, hka.fr f (fun g hg => by rw [(hkr g hg).2]; exact h0), fun g hg => by
    have := hkr g hg
    exact ⟨Nat.lt_of_lt_of_le this.1 f.size, by rw [f.role _ this.1]; exact this.2⟩⟩

/-- What lies beside a stretch of stores stays. -/
theorem range_beside {w : World} {b o o' : Nat} {A : Array Value} {t : TypeId} {cs vs : List Value} (h : w.rangeAt b o cs) (hg : objAt w b = some (.cells A t (0, 0))) (hv : o' + vs.length ≤ A.size) (hd : o + cs.length ≤ o') : (w.setCells b o' vs).rangeAt b o cs := fun j v hj => by
  have h1 := h j v hj
  have hl := (List.getElem?_eq_some_iff.1 hj).1
  rw [obj_cell hg] at h1
  rw [obj_cell (obj_sets vs A o' w hg), spl_get _ _ _ _ hv, if_neg (by omega)]
  exact h1

theorem range_new {w : World} {b o : Nat} {A : Array Value} {t : TypeId} {vs : List Value} (hg : objAt w b = some (.cells A t (0, 0))) (hv : o + vs.length ≤ A.size) : (w.setCells b o vs).rangeAt b o vs := fun j v hj => by
  have hl := (List.getElem?_eq_some_iff.1 hj).1
  rw [obj_cell (obj_sets vs A o w hg), spl_get _ _ _ _ hv, if_pos (by omega), show o + j - o = j by omega]
  exact hj

theorem mul_room {i n s : Nat} (h : i < n) : i * s + s ≤ n * s := by
  have := Nat.mul_le_mul_right s (show i + 1 ≤ n from h)
  rw [Nat.add_mul] at this
  omega

/-- 'ops[i] = ..', 'vals[i] = ..'. -/
theorem Rows2.put {w : World} {ρ : Nat → Nat} {ob vb n i : Nat} {os : Nat → OpS} (h : Rows2 w ρ ob vb n i os) (hi : i < n) {o : OpS} (ho : o = os i) (hk : o.k < 5) {kv : Value} {kd : Int} (hkd : kd = if o.del then 2 else 1) (hka : KeyAt w kv o.k) (hkr : ∀ g, kv.ownBlock = some g → g < w.heap.size ∧ ρ g = 0) :
    Fr (fun r => r = 5) ρ ρ w (w.setCells ob (i * 13) (opA kd o.lease kv).toList) ∧
    Fr (fun r => r = 5 ∨ r = 6) ρ ρ w ((w.setCells ob (i * 13) (opA kd o.lease kv).toList).setCells vb (i * 19) (valA o.addr o.size o.sum).toList) ∧
      Rows2 ((w.setCells ob (i * 13) (opA kd o.lease kv).toList).setCells vb (i * 19) (valA o.addr o.size o.sum).toList) ρ ob vb n (i + 1) os ∧
      (∃ A, objAt w ob = some (.cells A 70 (0, 0)) ∧ i * 13 + 13 ≤ A.size) ∧ (∃ A, objAt (w.setCells ob (i * 13) (opA kd o.lease kv).toList) vb = some (.cells A 54 (0, 0)) ∧ i * 19 + 19 ≤ A.size) := by
  obtain ⟨co, hgo, hso⟩ := h.oO
  obtain ⟨cv, hgv, hsv⟩ := h.oV
  have m1 := mul_room (s := 13) hi
  have m2 := mul_room (s := 19) hi
  have f1 : Fr (fun r => r = 5) ρ ρ w (w.setCells ob (i * 13) (opA kd o.lease kv).toList) := grown_fr (grown_sets _ _ _ _) _ (fun g e => by cases e; exact h.rO)
  obtain ⟨w1, hw1⟩ : ∃ w1, w1 = w.setCells ob (i * 13) (opA kd o.lease kv).toList := ⟨_, rfl⟩
  have o1 : objAt w1 ob = some (.cells (spl co (i * 13) (opA kd o.lease kv).toList) 70 (0, 0)) := by rw [hw1]; exact obj_sets _ _ _ _ hgo
  have rn1 : w1.rangeAt ob (i * 13) (opA kd o.lease kv).toList := by rw [hw1]; exact range_new hgo (by show i * 13 + 13 ≤ _; omega)
  have rb1 : ∀ j cs, j < i → cs.length = 13 → w.rangeAt ob (j * 13) cs → w1.rangeAt ob (j * 13) cs := fun j cs hj hl hr => by
    rw [hw1]
    exact range_beside hr hgo (by show i * 13 + 13 ≤ _; omega) (by rw [hl]; exact mul_room hj)
  rw [← hw1] at f1 ⊢
  have gv1 := f1.obj hgv (by rw [h.rV]; omega)
  have f2 : Fr (fun r => r = 6) ρ ρ w1 (w1.setCells vb (i * 19) (valA o.addr o.size o.sum).toList) := grown_fr (grown_sets _ _ _ _) _ (fun g e => by cases e; exact h.rV)
  have o2 : objAt (w1.setCells vb (i * 19) (valA o.addr o.size o.sum).toList) vb = some (.cells (spl cv (i * 19) (valA o.addr o.size o.sum).toList) 54 (0, 0)) := obj_sets _ _ _ _ gv1
  have rn2 : (w1.setCells vb (i * 19) (valA o.addr o.size o.sum).toList).rangeAt vb (i * 19) (valA o.addr o.size o.sum).toList := range_new gv1 (by show i * 19 + 19 ≤ _; omega)
  have rb2 : ∀ j cs, j < i → cs.length = 19 → w1.rangeAt vb (j * 19) cs → (w1.setCells vb (i * 19) (valA o.addr o.size o.sum).toList).rangeAt vb (j * 19) cs := fun j cs hj hl hr => range_beside hr gv1 (by show i * 19 + 19 ≤ _; omega) (by rw [hl]; exact mul_room hj)
  have F : Fr (fun r => r = 5 ∨ r = 6) ρ ρ w (w1.setCells vb (i * 19) (valA o.addr o.size o.sum).toList) := (f1.mono (fun _ e => Or.inl e)).trans (f2.mono (fun _ e => Or.inr e))
  have hoo : objAt (w1.setCells vb (i * 19) (valA o.addr o.size o.sum).toList) ob = some (.cells (spl co (i * 13) (opA kd o.lease kv).toList) 70 (0, 0)) := f2.obj o1 (by rw [h.rO]; omega)
  refine ⟨f1, F, ⟨⟨fun j hj => ?_, fun j hj => ?_, ⟨obj_lt hoo, by rw [h.rO]; omega⟩, ⟨obj_lt o2, by rw [h.rV]; omega⟩⟩, ⟨_, hoo, by rw [spl_size]; exact hso⟩, ⟨_, o2, by rw [spl_size]; exact hsv⟩, h.rO, h.rV⟩, ⟨co, hgo, by omega⟩, ⟨cv, gv1, by omega⟩⟩
  · by_cases e : j = i
    · rw [e, ← ho]
      exact ⟨hk, kv, by rw [← hkd]; exact f2.range rn1 (by rw [h.rO]; omega), hka.fr F (fun g hg => by rw [(hkr g hg).2]; omega), fun g hg => ⟨Nat.lt_of_lt_of_le (hkr g hg).1 F.size, (hkr g hg).2⟩⟩
    · obtain ⟨a1, kv', a2, a3, a4⟩ := h.ops.op j (by omega)
      exact ⟨a1, kv', f2.range (rb1 j _ (by omega) rfl a2) (by rw [h.rO]; omega), a3.fr F (fun g hg => by rw [(a4 g hg).2]; omega), fun g hg => ⟨Nat.lt_of_lt_of_le (a4 g hg).1 F.size, (a4 g hg).2⟩⟩
  · by_cases e : j = i
    · rw [e, ← ho]
      exact rn2
    · exact rb2 j _ (by omega) rfl (f1.range (h.ops.val j (by omega)) (by rw [h.rV]; omega))

/-! ### The places that are expected of the transaction -/
def opRks (rev : Int) (os : Nat → OpS) : Nat → List Rk
  | 0 => []
  | i + 1 => opRks rev os i ++ [⟨rev, (i : Int), (os i).k⟩]
theorem opRks_length (rev : Int) (os : Nat → OpS) : ∀ i, (opRks rev os i).length = i
  | 0 => rfl
  | i + 1 => by simp [opRks, opRks_length rev os i]
theorem opRks_at (rev : Int) (os : Nat → OpS) : ∀ n j, j < n → (opRks rev os n)[j]? = some ⟨rev, (j : Int), (os j).k⟩
  | n + 1, j, h => by
    rw [opRks]
    rcases Nat.lt_or_ge j n with q | q
    · rw [List.getElem?_append_left (by rw [opRks_length]; exact q)]
      exact opRks_at rev os n j q
    · obtain rfl : j = n := by omega
      rw [List.getElem?_append_right (by rw [opRks_length]; exact Nat.le_refl _), opRks_length]
      simp

/-- How the second slice reads. -/
structure RawAt (w : World) (ra : Option Addr) (nr : Nat) (rw' : Nat → OpS) (ky : Nat → Int) : Prop where
  at' : ∀ i, i < nr → ∃ b o, ra = some ⟨b, o, none⟩ ∧ w.rangeAt b (o + i * 6) [.int .u8 (ky i), .bool (rw' i).del, .int .i64 (rw' i).lease, .int .i64 (rw' i).addr, .int .u32 (rw' i).size, .int .u32 (rw' i).sum]
  key : ∀ i, 0 ≤ ky i ∧ ky i ≤ 255 ∧ ky i % 5 = ((rw' i).k : Int)

/-- The state of the second loop. -/
structure Q2 (w0 : World) (X mb EB : Nat) (M : Nat → Option Nat) (L : Nat → List Chg) (pl : List Plc) (nb : Nat) (rs : List Rk) (rev : Int) (os : Nat → OpS) (ob vb n i : Nat) (w : World) (ρ : Nat → Nat) (vk vr : Value) : Prop where
  st : St w0 X mb EB w ρ M L pl nb (Lrun L rev os i) (rs ++ opRks rev os i) (rs ++ opRks rev os i) vk vr
  row : Rows2 w ρ ob vb n i os
end Go.Proofs.Ybulkdljs
