/-
  What the walk over LawS5621BWhole leans on between its loops.
-/
import Derived.Test.YbulkdljsLoop2
import Derived.Test.YbulkdljsLoop3
import Derived.Test.YbulkdljsLoop5
namespace Go.Proofs.Ybulkdljs
open Go.RowKit

/-! ### Types -/
theorem part70 : ∃ i, Yba.prog.info? 70 = some i ∧ i.zero = some (.agg (opA 0 0 (.slice none 0 0))) ∧ i.size = 13 ∧ i.bytes ≤ 4096 := by
  have h1 : (Yba.prog.info? 70).map (fun i => (i.zero, i.size)) = some (some (.agg (opA 0 0 (.slice none 0 0))), 13) := by kernel_rfl
  have h2 : (Yba.prog.info? 70).map (fun i => decide (i.bytes ≤ 4096)) = some true := by kernel_rfl
  cases h : Yba.prog.info? 70 with
  | none => rw [h] at h1; cases h1
  | some i =>
    rw [h] at h1 h2
    simp only [Option.map_some, Option.some.injEq, Prod.mk.injEq] at h1
    simp only [Option.map_some, Option.some.injEq, decide_eq_true_eq] at h2
    exact ⟨i, rfl, h1.1, h1.2, h2⟩
theorem part54 : ∃ i, Yba.prog.info? 54 = some i ∧ i.zero = some (.agg (valA 0 0 0)) ∧ i.size = 19 ∧ i.bytes ≤ 4096 := by
  have h1 : (Yba.prog.info? 54).map (fun i => (i.zero, i.size)) = some (some (.agg (valA 0 0 0)), 19) := by kernel_rfl
  have h2 : (Yba.prog.info? 54).map (fun i => decide (i.bytes ≤ 4096)) = some true := by kernel_rfl
  cases h : Yba.prog.info? 54 with
  | none => rw [h] at h1; cases h1
  | some i =>
    rw [h] at h1 h2
    simp only [Option.map_some, Option.some.injEq, Prod.mk.injEq] at h1
    simp only [Option.map_some, Option.some.injEq, decide_eq_true_eq] at h2
    exact ⟨i, rfl, h1.1, h1.2, h2⟩

/-! ### The start -/
theorem Q1.start (w : World) (ps : Nat → Pre) (o : Obj) : ∃ ρ, Q1 w (w.heap.size + 1 + 1) (w.heap.size + 1) (w.heap.size + 1 + 1 + 1) ps 0
    ((((w.alloc o).alloc (.map #[] 0)).alloc (.cells #[.map (some (w.heap.size + 1)), .pointer none, .slice none 0 0, .int .i64 0, .bool false, .slice none 0 0, .slice none 0 0, .slice none 0 0] 36)).alloc (.cells #[.slice none 0 0, .slice none 0 0, .slice none 0 0, .slice none 0 0, .slice none 0 0] 39)) ρ (fun _ => none) [] (.slice none 0 0) (.slice none 0 0) := by
  obtain ⟨h, hh⟩ : ∃ h, h = w.heap.size := ⟨_, rfl⟩
  rw [← hh]
  obtain ⟨w1, hw1⟩ : ∃ w1, w1 = w.alloc o := ⟨_, rfl⟩
  have z1 : w1.heap.size = h + 1 := by rw [hw1, hh]; simp
  have f1 : Fr (fun r => r ≠ 0) (fun _ => 0) (fun _ => 0) w w1 := by rw [hw1]; exact (Fr.refl _ _ w).alloc _
  rw [← hw1]
  obtain ⟨w2, hw2⟩ : ∃ w2, w2 = w1.alloc (.map #[] 0) := ⟨_, rfl⟩
  have z2 : w2.heap.size = h + 1 + 1 := by rw [hw2]; simp [z1]
  have f2 := (Fr.refl (fun r => r ≠ 0) (fun _ => 0) w1).allocAs (.map #[] 0) 101
  rw [← hw2, z1] at f2
  have m2 : MapIs w2 (h + 1) (fun _ => none) := by rw [hw2, ← z1]; exact MapIs.made w1
  rw [← hw2]
  obtain ⟨oX, hoX⟩ : ∃ oX : Obj, oX = .cells #[.map (some (h + 1)), .pointer none, .slice none 0 0, .int .i64 0, .bool false, .slice none 0 0, .slice none 0 0, .slice none 0 0] 36 := ⟨_, rfl⟩
  rw [← hoX]
  obtain ⟨w3, hw3⟩ : ∃ w3, w3 = w2.alloc oX := ⟨_, rfl⟩
  have z3 : w3.heap.size = h + 1 + 1 + 1 := by rw [hw3]; simp [z2]
  have f3 := (Fr.refl (fun _ => False) (upd (fun _ => 0) (h + 1) 101) w2).allocAs oX 100
  rw [← hw3, z2] at f3
  have o3 : objAt w3 (h + 1 + 1) = some oX := by rw [hw3]; exact heapN _ _ _ z2.symm
  rw [← hw3]
  obtain ⟨oE, hoE⟩ : ∃ oE : Obj, oE = .cells #[.slice none 0 0, .slice none 0 0, .slice none 0 0, .slice none 0 0, .slice none 0 0] 39 := ⟨_, rfl⟩
  rw [← hoE]
  obtain ⟨w4, hw4⟩ : ∃ w4, w4 = w3.alloc oE := ⟨_, rfl⟩
  have z4 : w4.heap.size = h + 1 + 1 + 1 + 1 := by rw [hw4]; simp [z3]
  have f4 := (Fr.refl (fun _ => False) (upd (upd (fun _ => 0) (h + 1) 101) (h + 1 + 1) 100) w3).allocAs oE 1
  rw [← hw4, z3] at f4
  have o4 : objAt w4 (h + 1 + 1 + 1) = some oE := by rw [hw4]; exact heapN _ _ _ z3.symm
  rw [← hw4]
  have F : Fr (fun r => r ≠ 0) (fun _ => 0) (upd (upd (upd (fun _ => 0) (h + 1) 101) (h + 1 + 1) 100) (h + 1 + 1 + 1) 1) w w4 := f1.trans (f2.trans ((f3.mono (fun _ e => e.elim)).trans (f4.mono (fun _ e => e.elim))))
  have nl : ∀ (e s : Nat), w4.ownsRow 0 e s (.slice none 0 0) 0 [] := fun e s => ⟨by simp, .inl ⟨rfl, rfl⟩⟩
  have nb : ∀ g, (Value.slice none 0 0).ownBlock = some g → False := fun g hg => by simp [Value.ownBlock] at hg
  refine ⟨_, ⟨F, ⟨?_, ?_, (m2.fr f3 (fun e => e)).fr f4 (fun e => e), fun k hb _ hM => by simp at hM, fun _ _ _ => rfl, F.tidy (fun _ _ => rfl), .pointer none, .slice none 0 0, [], 0, ?_, ⟨nl 76 1, fun g hg => (nb g hg).elim, fun i d hd => by simp at hd, by simp⟩, rfl, .inl rfl, Nat.zero_le _⟩, ⟨?_, fun _ => .slice none 0 0, ?_, fun k _ => nl 56 24, fun k _ g hg => (nb g hg).elim⟩, nl 3 1, fun g hg => (nb g hg).elim, nl 49 2, fun g hg => (nb g hg).elim⟩, rfl, fun j p hp => by simp at hp, fun k _ => ⟨fun _ => rfl, fun _ => rfl⟩⟩
  · rw [upd_other _ (by omega), upd_same]
  · rw [upd_other _ (by omega), upd_other _ (by omega), upd_same]
  · have q := f4.obj o3 (fun e => e)
    rw [hoX] at q
    exact q
  · rw [upd_same]
  · rw [← hoE]; exact o4

/-- Behind the two makes. -/
theorem Q2.start {w0 : World} {X mb EB : Nat} {ps : Nat → Pre} {np : Nat} {w : World} {ρ : Nat → Nat} {M : Nat → Option Nat} {pl : List Plc} {vk vr : Value} (h : Q1 w0 X mb EB ps np w ρ M pl vk vr) (rev : Int) (os : Nat → OpS) {n : Nat} {w1 w2 : World} {xs ys : List Value}
    (o1 : w1.ownsRow 0 70 13 (.slice (some ⟨w.heap.size, 0, none⟩) n n) n xs) (g1 : w.grownBy w1 none) (o2 : w2.ownsRow 0 54 19 (.slice (some ⟨w1.heap.size, 0, none⟩) n n) n ys) (g2 : w1.grownBy w2 none) :
    ∃ ρ', Q2 w0 X mb EB M (preRun ps np) pl ((np + 1023) / 1024) (preRks ps np) rev os w.heap.size w1.heap.size n 0 w2 ρ' vk vr := by
  have l1 : w.heap.size < w1.heap.size := (o1.lt _ rfl).2
  have l2 : w1.heap.size < w2.heap.size := (o2.lt _ rfl).2
  have f1 : Fr (fun _ => False) ρ (upd ρ w.heap.size 5) w w1 := (Fr.refl _ ρ w).grownAs g1 (fun g e => by cases e) (Nat.le_refl _) l1 5
  have f2 : Fr (fun _ => False) (upd ρ w.heap.size 5) (upd (upd ρ w.heap.size 5) w1.heap.size 6) w1 w2 := (Fr.refl _ _ w1).grownAs g2 (fun g e => by cases e) (Nat.le_refl _) l2 6
  have S := h.st.keep (f1.trans f2)
  have e1 : ∃ cur, objAt w1 w.heap.size = some (.cells cur 70 (0, 0)) ∧ cur.size = n * 13 := by
    rcases o1.2 with ⟨q, _⟩ | ⟨g, c, cur, q, _, hg, _, _, hs, _⟩
    · cases q
    · cases q
      exact ⟨cur, hg, hs⟩
  have e2 : ∃ cur, objAt w2 w1.heap.size = some (.cells cur 54 (0, 0)) ∧ cur.size = n * 19 := by
    rcases o2.2 with ⟨q, _⟩ | ⟨g, c, cur, q, _, hg, _, _, hs, _⟩
    · cases q
    · cases q
      exact ⟨cur, hg, hs⟩
  obtain ⟨c1, a1, a2⟩ := e1
  have r5 : upd (upd ρ w.heap.size 5) w1.heap.size 6 w.heap.size = 5 := by rw [upd_other _ (by omega), upd_same]
  have r6 : upd (upd ρ w.heap.size 5) w1.heap.size 6 w1.heap.size = 6 := upd_same _ _ _
  refine ⟨_, by simp only [opRks, List.append_nil]; exact S, ⟨⟨fun i hi => by omega, fun i hi => by omega, ⟨by omega, by omega⟩, ⟨by omega, by omega⟩⟩, ⟨c1, f2.obj a1 (fun e => e), a2⟩, e2, r5, r6⟩⟩

/-- Behind applyInSteps. -/
theorem Q3.start {w0 : World} {X mb EB : Nat} {M : Nat → Option Nat} {L : Nat → List Chg} {pl : List Plc} {nb : Nat} {rs : List Rk} {rev : Int} {os : Nat → OpS} {ob vb n : Nat} {w : World} {ρ : Nat → Nat} {vk vr : Value} (h : Q2 w0 X mb EB M L pl nb rs rev os ob vb n n w ρ vk vr)
    (hp : PlR M pl rs) (hl : pl.length = rs.length) (hL : ∀ k, (L k).length ≤ 4096) (hpl : pl.length ≤ 4096) (hn : n ≤ 262144) {w4 w' : World} {ρ4 ρ' : Nat → Nat} {M' : Nat → Option Nat} {qs : List Plc} {c kc : Nat}
    (f4 : Fr (fun _ => False) ρ ρ4 w w4) (A : Lp w4 ρ4 X mb kc M L pl rev os n c w' ρ' M' qs) (hc : n ≤ c * 1024) :
    ∃ rh rc, Q3 w0 X mb EB M' (Lrun L rev os n) (pl ++ qs) (rs ++ opRks rev os n) rh rc vk vr w' ρ' := by
  have em : min (c * 1024) n = n := Nat.min_eq_right hc
  obtain ⟨rh, rc, I, R⟩ := A.ix
  have hlen := A.len
  have hiff := A.iff
  rw [em] at I hlen hiff
  have S := h.st.keep f4
  have el : (pl ++ qs).length = pl.length + n := by rw [List.length_append, hlen]
  have hq : PlR M' qs (opRks rev os n) := fun j p hj => by
    obtain ⟨a1, a2, a3⟩ := A.pls j p hj
    have hjn : j < n := by have := (List.getElem?_eq_some_iff.1 hj).1; omega
    rw [Nat.zero_add] at a2 a3
    exact ⟨_, opRks_at rev os n j hjn, a1, a2, a3⟩
  refine ⟨rh, rc, S.fr.trans (A.fr.mono (fun r e => by omega)), by rw [el]; exact I, R, S.ex.fr A.fr (by omega) (fun k hk => by omega), A.fr.owns S.pk (fun g hg => by rw [S.rk g hg]; omega), A.fr.owns S.pr (fun g hg => by rw [S.rr g hg]; omega), (hp.ext A.ext).app hq hl, by rw [el, List.length_append, opRks_length, hl], hiff, fun k => ?_, by rw [el]; omega⟩
  have h1 := Lrun_len L rev os k n
  have h2 := hL k
  omega

theorem quo_steps {n c : Nat} (h1 : n ≤ c * 1024) (h2 : c * 1024 < n + 1024) : Int.tdiv ((n : Int) + 1023) 1024 = (c : Int) := by
  rw [Int.tdiv_eq_ediv_of_nonneg (by omega)]
  omega
theorem quo_nat (n : Nat) : Int.tdiv ((n : Int) + 1023) 1024 = (((n + 1023) / 1024 : Nat) : Int) := by
  rw [Int.tdiv_eq_ediv_of_nonneg (by omega)]
  omega
end Go.Proofs.Ybulkdljs
