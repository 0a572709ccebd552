/-
  The walk over (*index).applyInSteps.
-/
import Derived.Test.YbulkdljsStep
namespace Go.Proofs.Ybulkdljs
open Go.RowKit
attribute [local go_sem] heapN heapP heapD setsN setsP setsD heapDN allocDN cellDN setsDN spl size_sets Value.oneCell'

/-- The loop's state behind c steps. -/
structure Lp (w : World) (ρ : Nat → Nat) (X mb kc : Nat) (M : Nat → Option Nat) (L : Nat → List Chg) (pl : List Plc) (rev : Int) (os : Nat → OpS) (n c : Nat) (wr : World) (ρr : Nat → Nat) (Mr : Nat → Option Nat) (ps : List Plc) : Prop where
  fr : Fr (fun r => r = 2 ∨ 100 ≤ r) ρ ρr w wr
  ix : ∃ rh rc, Ix wr ρr X mb Mr (Lrun L rev os (min (c * 1024) n)) (pl ++ ps) ((pl.length + min (c * 1024) n + 1023) / 1024) (.slice none 0 0) rh rc ∧ R0 wr ρr rh rc
  len : ps.length = min (c * 1024) n
  pls : PlOps Mr rev os 0 ps
  ext : ∀ j b, M j = some b → Mr j = some b
  iff : ∀ k, k < 5 → (Mr k = none ↔ Lrun L rev os (min (c * 1024) n) k = [])
  calls : objAt wr kc = some (.cells #[.int .i64 (c : Int)] 3 (0, 0))
  rk : ρr kc = 2
  lt : c * 1024 < n + 1024

theorem Lp.keep {w : World} {ρ : Nat → Nat} {X mb kc : Nat} {M : Nat → Option Nat} {L : Nat → List Chg} {pl : List Plc} {rev : Int} {os : Nat → OpS} {n c : Nat} {wr : World} {ρr : Nat → Nat} {Mr : Nat → Option Nat} {ps : List Plc} (h : Lp w ρ X mb kc M L pl rev os n c wr ρr Mr ps) {w' : World} (f : Fr (fun _ => False) ρr ρr wr w') :
    Lp w ρ X mb kc M L pl rev os n c w' ρr Mr ps := by
  obtain ⟨rh, rc, I, R⟩ := h.ix
  exact ⟨h.fr.trans (f.mono (fun _ e => e.elim)), ⟨rh, rc, I.fr f (fun _ _ e => e), R.fr f (fun e => e) (fun e => e)⟩, h.len, h.pls, h.ext, h.iff, f.obj h.calls (fun e => e), h.rk, h.lt⟩

/-- What a loop's variable in memory holds. -/
def fromOf (v : Value) (w : World) : Nat := match v with | .pointer (some a) => (match w.cell? a with | some u => (intOf u).toNat | none => 0) | _ => 0
theorem fromOf_is {w : World} {C : Nat} {x : Int} (h : w.cell? ⟨C, 0, none⟩ = some (.int .i64 x)) : fromOf (.pointer (some ⟨C, 0, none⟩)) w = x.toNat := by
  unfold fromOf
  simp [h, intOf]

def AsRes (w : World) (ρ : Nat → Nat) (X mb kc : Nat) (M : Nat → Option Nat) (L : Nat → List Chg) (pl : List Plc) (rev : Int) (os : Nat → OpS) (n : Nat) (e : Ending) (w' : World) : Prop :=
  ∃ c ρ' M' ps, e = .returned (.tuple #[]) ∧ Lp w ρ X mb kc M L pl rev os n c w' ρ' M' ps ∧ n ≤ c * 1024

theorem size70 (w : World) : (Go.sizeOf 70).run Yba.prog w = .ok 13 w := by kernel_rfl
theorem elem60 : Yba.prog.elem 60 = 70 := by simp [Program.elem, Yba.underlying60]

theorem slice_ops (ob n ocap f t : Nat) (hft : f < t) (ht : t ≤ ocap) (F T : Int) (hF : F = (f : Int)) (hT : T = (t : Int)) (W : World) :
    (Instr.slice 60 (.slice (some ⟨ob, 0, none⟩) n ocap) (some (.int .i64 F)) (some (.int .i64 T)) none).run Yba.prog W = .ok (.slice (some ⟨ob, f * 13, none⟩) (t - f) (ocap - f)) W := by
  subst hF hT
  have ht' : Yba.prog.underlying 60 = some (.slice (Yba.prog.elem 60)) := by rw [elem60]; exact Yba.underlying60
  rw [run_slice_lh W 60 _ _ _ ht' .i64 .i64 _ _ (by omega) (by omega) (by omega), elem60, size70]
  have hne : ¬ ocap = f := by omega
  by_cases h0 : f = 0
  · subst h0
    simp [Result.andThen, sliced, Addr.add, hne]
  · simp [Result.andThen, sliced, Addr.add, hne]
    omega

theorem min_step (c n : Nat) (h : c * 1024 < n) : min (c * 1024) n = c * 1024 ∧ c * 1024 < min ((c + 1) * 1024) n ∧ min ((c + 1) * 1024) n ≤ n ∧ min ((c + 1) * 1024) n - c * 1024 ≤ 1024 ∧ (c + 1) * 1024 < n + 1024 := by
  rw [Nat.add_mul]
  omega

theorem PlOps.app {M M' : Nat → Option Nat} {rev : Int} {os : Nat → OpS} {f : Nat} {ps qs : List Plc} (h : PlOps M rev os 0 ps) (hl : ps.length = f) (hx : ∀ j b, M j = some b → M' j = some b) (k : PlOps M' rev os f qs) : PlOps M' rev os 0 (ps ++ qs) := by
  intro j p hp
  rcases Nat.lt_or_ge j ps.length with hj | hj
  · rw [List.getElem?_append_left hj] at hp
    obtain ⟨p1, p2, p3⟩ := h j p hp
    exact ⟨p1, p2, hx _ _ p3⟩
  · rw [List.getElem?_append_right hj] at hp
    obtain ⟨p1, p2, p3⟩ := k _ p hp
    have e : f + (j - ps.length) = 0 + j := by omega
    rw [e] at p2 p3
    exact ⟨p1, p2, p3⟩

theorem Lp.step {w : World} {ρ : Nat → Nat} {X mb kc : Nat} {M : Nat → Option Nat} {L : Nat → List Chg} {pl : List Plc} {rev : Int} {os : Nat → OpS} {n c : Nat} {wr : World} {ρr : Nat → Nat} {Mr : Nat → Option Nat} {ps : List Plc} (h : Lp w ρ X mb kc M L pl rev os n c wr ρr Mr ps) (hlt : c * 1024 < n)
    {w1 w2 w3 w4 : World} {ρ2 : Nat → Nat} (f1 : Fr (fun _ => False) ρr ρr wr w1) (f2 : Fr (fun r => 100 ≤ r) ρr ρ2 w1 w2) (hw3 : w3 = w2.setCell ⟨kc, 0, none⟩ (.int .i64 ((c : Int) + 1)))
    (hs : StRes w3 ρ2 X mb Mr L (pl ++ ps) ((pl.length + min ((c + 1) * 1024) n + 1023) / 1024) rev os (c * 1024) (min ((c + 1) * 1024) n) w4) :
    ∃ ρ4 M4 ps4, Lp w ρ X mb kc M L pl rev os n (c + 1) w4 ρ4 M4 ps4 ∧ Fr (fun r => r = 2 ∨ 100 ≤ r) ρr ρ4 wr w4 := by
  obtain ⟨m1, m2, m3, m4, m5⟩ := min_step c n hlt
  obtain ⟨ρ4, M4, qs, rh, rc, F4, I4, R4, hl4, hp4, hx4, hi4⟩ := hs
  have hkl : kc < wr.heap.size := obj_lt h.calls
  have o1 := f1.obj h.calls (fun e => e)
  have o2 := f2.obj o1 (by rw [h.rk]; omega)
  have rk2 : ρ2 kc = 2 := (f2.role _ (obj_lt o1)).trans h.rk
  have o3 : objAt w3 kc = some (.cells #[.int .i64 ((c : Int) + 1)] 3 (0, 0)) := by rw [hw3]; exact obj_set o2 0 _
  have f3 : Fr (fun r => r = 2) ρ2 ρ2 w2 w3 := by rw [hw3]; exact (Fr.refl _ ρ2 w2).setCell (a := ⟨kc, 0, none⟩) rk2 _
  have F : Fr (fun r => r = 2 ∨ 100 ≤ r) ρr ρ4 wr w4 := (f1.mono (fun _ e => e.elim)).trans ((f2.mono (fun _ e => Or.inr e)).trans ((f3.mono (fun _ e => Or.inl e)).trans (F4.mono (fun _ e => Or.inr e))))
  have hl := h.len
  rw [m1] at hl
  have o4 := F4.obj o3 (by rw [rk2]; omega)
  refine ⟨ρ4, M4, ps ++ qs, ⟨h.fr.trans F, ⟨rh, rc, by rw [← List.append_assoc]; exact I4, R4⟩, by rw [List.length_append]; omega, h.pls.app hl hx4 hp4, fun j b hj => hx4 j b (h.ext j b hj), hi4, ?_, (F4.role _ (obj_lt o3)).trans rk2, m5⟩, F⟩
  have e : ((c + 1 : Nat) : Int) = (c : Int) + 1 := by omega
  rw [e]
  exact o4

set_option maxRecDepth 100000 in
set_option maxHeartbeats 4000000 in
theorem applyInSteps_any (ρ : Nat → Nat) (X mb kb kc ko : Nat) (M : Nat → Option Nat) (L : Nat → List Chg) (pl : List Plc) (rev : Int) (os : Nat → OpS) (ob vb n ocap vcap : Nat) (rh rc : Value) (w : World)
    (hI : Ix w ρ X mb M L pl ((pl.length + 1023) / 1024) (.slice none 0 0) rh rc) (hR : R0 w ρ rh rc) (hO : OpsAt w ρ ob vb n os) (hoc : n ≤ ocap) (hn : n ≤ 262144) (hpl : pl.length ≤ 4096) (hL : ∀ k, (L k).length ≤ 4096)
    (hiff : ∀ k, k < 5 → (M k = none ↔ L k = [])) (hb : w.cell? ⟨kb, 0, none⟩ = some (.int .i64 (pl.length : Int))) (rb : ρ kb < 2) (hc : objAt w kc = some (.cells #[.int .i64 0] 3 (0, 0))) (rk : ρ kc = 2) :
    Calls Yba.prog 8 #[.pointer (some ⟨X, 0, none⟩), .agg #[.int .i64 rev, .slice (some ⟨ob, 0, none⟩) n ocap, .int .i64 0, .slice (some ⟨vb, 0, none⟩) n vcap], .func (.func 7) #[] #[.pointer (some ⟨X, 0, none⟩), .pointer (some ⟨kb, 0, none⟩), .pointer (some ⟨kc, 0, none⟩), .pointer (some ⟨ko, 0, none⟩)]] w
      (AsRes w ρ X mb kc M L pl rev os n) := by
  have hmf : ∀ (fn : Fn) (first cap : Array Value) (w : World), (Instr.makeFunc fn first cap).run Yba.prog w = .ok (.func fn first cap) w := fun _ _ _ _ => rfl
  obtain ⟨A, hA⟩ : ∃ A, A = w.heap.size := ⟨_, rfl⟩
  obtain ⟨W0, hW0⟩ : ∃ W0, W0 = (w.alloc (.cells #[.pointer (some ⟨X, 0, none⟩)] 81)).alloc (.cells #[.int .i64 rev, .slice (some ⟨ob, 0, none⟩) n ocap, .int .i64 0, .slice (some ⟨vb, 0, none⟩) n vcap] 74) := ⟨_, rfl⟩
  obtain ⟨W1, hW1⟩ : ∃ W1, W1 = W0.alloc (.cells #[.int .i64 0] 3) := ⟨_, rfl⟩
  have F1 : Fr (fun _ => False) ρ ρ w W0 := by rw [hW0]; exact ((Fr.refl _ ρ w).alloc _).alloc _
  have F2 : Fr (fun _ => False) ρ ρ w W1 := by rw [hW1]; exact F1.alloc _
  have r0 : ∀ b, w.heap.size ≤ b → ρ b = 0 := hI.tidy
  have oA : objAt W1 A = some (.cells #[.pointer (some ⟨X, 0, none⟩)] 81 (0, 0)) := by
    rw [hW1, heapP _ _ _ (by rw [hW0]; simp; omega), hW0, heapP _ _ _ (by simp; omega)]; exact heapN _ _ _ hA
  have oB : objAt W1 (A + 1) = some (.cells #[.int .i64 rev, .slice (some ⟨ob, 0, none⟩) n ocap, .int .i64 0, .slice (some ⟨vb, 0, none⟩) n vcap] 74 (0, 0)) := by
    rw [hW1, heapP _ _ _ (by rw [hW0]; simp; omega), hW0]; exact heapN _ _ _ (by simp; omega)
  have oC : objAt W1 (A + 1 + 1) = some (.cells #[.int .i64 0] 3 (0, 0)) := by
    rw [hW1]; exact heapN _ _ _ (by rw [hW0]; simp; omega)
  have A0 : Lp W1 ρ X mb kc M L pl rev os n 0 W1 ρ M [] := ⟨Fr.refl _ _ _, ⟨rh, rc, by simp only [Nat.zero_mul, Nat.zero_min, List.append_nil]; exact hI.fr F2 (fun _ _ e => e), hR.fr F2 (fun e => e) (fun e => e)⟩, by simp, fun j p h => by simp at h, fun _ _ h => h, fun k hk => by simp only [Nat.zero_mul, Nat.zero_min]; exact hiff k hk, F2.obj hc (fun e => e), rk, by omega⟩
  have O1 : OpsAt W1 ρ ob vb n os := hO.fr (F2.mono (fun _ e => e.elim))
  have hb1 : W1.cell? ⟨kb, 0, none⟩ = some (.int .i64 (pl.length : Int)) := F2.cell hb (fun e => e)
  have rA : ρ A = 0 := r0 _ (by omega)
  have rB : ρ (A + 1) = 0 := r0 _ (by omega)
  have rC : ρ (A + 1 + 1) = 0 := r0 _ (by omega)
  clear hI hR hO hiff hb hc
  replace A0 := hid A0
  replace O1 := hid O1
  replace oA := hid oA
  replace oB := hid oB
  replace oC := hid oC
  replace hb1 := hid hb1
  replace rA := hid rA
  replace rB := hid rB
  replace rC := hid rC
  replace F1 := hid F1
  replace F2 := hid F2
  replace hW0 := hid hW0
  replace hW1 := hid hW1
  replace r0 := hid r0
  replace rb := hid rb
  replace rk := hid rk
  replace hA := hid hA
  replace hpl := hid hpl
  replace hn := hid hn
  replace hoc := hid hoc
  go_enter Yba.func8, Yba.ntmps8
  go_wp2
  rw [← show A = w.heap.size from hA, ← hW0, ← hW1]
  go_loopw [6] (fun v wr => ∃ (c C : Nat) (F : Int) (ρr : Nat → Nat) (Mr : Nat → Option Nat) (ps : List Plc), v = .pointer (some ⟨C, 0, none⟩) ∧ Hid (Lp W1 ρ X mb kc M L pl rev os n c wr ρr Mr ps) ∧ Hid (objAt wr C = some (.cells #[.int .i64 F] 3 (0, 0))) ∧ Hid (ρr C = 0) ∧ Hid (F = ((c * 1024 : Nat) : Int))) (fun v wr => n + 1024 - fromOf v wr)
  case atStart => exact ⟨0, _, 0, _, _, _, rfl, A0, oC, rC, rfl⟩
  case round =>
    obtain ⟨c, C, F, ρr, Mr, ps, rfl, A1, oCr, rCr, hF⟩ := hrel
    clear A0
    have A' : Lp W1 ρ X mb kc M L pl rev os n c wr ρr Mr ps := A1
    have cC : wr.cell? ⟨C, 0, none⟩ = some (.int .i64 F) := obj_cell oCr 0
    have oAr := A'.fr.obj oA (by rw [show ρ A = 0 from rA]; omega)
    have oBr := A'.fr.obj oB (by rw [show ρ (A + 1) = 0 from rB]; omega)
    have cA : wr.cell? ⟨A, 0, none⟩ = some (.pointer (some ⟨X, 0, none⟩)) := obj_cell oAr 0
    have cB : wr.cell? ⟨A + 1, 1, none⟩ = some (.slice (some ⟨ob, 0, none⟩) n ocap) := obj_cell oBr 1
    have hF' : F = ((c * 1024 : Nat) : Int) := hF
    by_cases hlt : c * 1024 < n
    · have k1 : F < (n : Int) := by rw [hF']; exact Int.ofNat_lt.2 hlt
      obtain ⟨m1, m2, m3, m4, m5⟩ := min_step c n hlt
      obtain ⟨f, hf⟩ : ∃ f, f = c * 1024 := ⟨_, rfl⟩
      obtain ⟨t, ht⟩ : ∃ t, t = min ((c + 1) * 1024) n := ⟨_, rfl⟩
      obtain ⟨G, hG⟩ : ∃ G : Int, F + 1024 = G := ⟨_, rfl⟩
      obtain ⟨T, hT⟩ : ∃ T : Int, min G (n : Int) = T := ⟨_, rfl⟩
      have hn' : n ≤ 262144 := hn
      have hpl' : pl.length ≤ 4096 := hpl
      have hGw : wrap64 G = G := IntWalk.wrap64_in _ (by rw [← hG, hF']; omega)
      have hTt : T = (t : Int) := by rw [← hT, ← hG, hF', ht, Nat.add_mul]; omega
      have hFf : F = (f : Int) := by rw [hF', hf]
      have hsl := slice_ops ob n ocap f t (by rw [hf, ht]; exact m2) (by have h1 : n ≤ ocap := hoc; rw [ht]; omega) F T hFf hTt
      obtain ⟨rh1, rc1, I1, R1⟩ := A'.ix
      have hl := A'.len
      rw [m1] at hl I1
      rw [← hf] at hl I1
      obtain ⟨w1, hw1⟩ : ∃ w1, w1 = wr.alloc (.cells #[.int .i64 T] 3) := ⟨_, rfl⟩
      have f1 : Fr (fun _ => False) ρr ρr wr w1 := by rw [hw1]; exact (Fr.refl _ ρr wr).alloc _
      have oD : objAt w1 wr.heap.size = some (.cells #[.int .i64 T] 3 (0, 0)) := by rw [hw1]; exact heapN _ _ _ rfl
      have rD : ρr wr.heap.size = 0 := I1.tidy _ (Nat.le_refl _)
      have rAr : ρr A = 0 := (A'.fr.role _ (obj_lt oA)).trans rA
      have rBr : ρr (A + 1) = 0 := (A'.fr.role _ (obj_lt oB)).trans rB
      have Or1 : OpsAt wr ρr ob vb n os := OpsAt.frS O1 A'.fr (fun r hr e => by omega)
      have hlen : (pl ++ ps).length = pl.length + f := by rw [List.length_append, hl]
      have hLl : ∀ k, (Lrun L rev os f k).length ≤ 1000000 := fun k => by
        have h1 := Lrun_len L rev os k f
        have h2 := hL k
        omega
      have emax : max ((pl.length + f + 1023) / 1024) (((pl ++ ps).length + (t - f) + 1023) / 1024) = (pl.length + t + 1023) / 1024 := by rw [hlen]; omega
      have ma := makeRoom_any ρr X mb Mr (Lrun L rev os f) (pl ++ ps) ((pl.length + f + 1023) / 1024) rh1 rc1 os ob vb n f (t - f) (ocap - f) (w1.drewN 1) (I1.fr (f1.drewN 1) (fun _ _ e => e)) (R1.fr (f1.drewN 1) (fun e => e) (fun e => e)) (Or1.fr ((f1.drewN 1).mono (fun _ e => e.elim))) (by omega) (by omega) hLl (by rw [hlen]; omega) (by omega)
      rw [emax] at ma
      have cA1 : ∀ w', Same w1 w' → w'.cell? ⟨A, 0, none⟩ = some (.pointer (some ⟨X, 0, none⟩)) ∧ w'.cell? ⟨A + 1, 1, none⟩ = some (.slice (some ⟨ob, 0, none⟩) n ocap) ∧ w'.cell? ⟨C, 0, none⟩ = some (.int .i64 F) ∧ w'.cell? ⟨wr.heap.size, 0, none⟩ = some (.int .i64 T) := fun w' h => ⟨(h.cell _).trans (f1.cell cA (fun e => e)), (h.cell _).trans (f1.cell cB (fun e => e)), (h.cell _).trans (f1.cell cC (fun e => e)), (h.cell _).trans (obj_cell oD 0)⟩
      have cA2 : ∀ w2, MkRes (w1.drewN 1) ρr X mb Mr (Lrun L rev os f) (pl ++ ps) ((pl.length + t + 1023) / 1024) (.returned (.tuple #[])) w2 → w2.cell? ⟨A, 0, none⟩ = some (.pointer (some ⟨X, 0, none⟩)) ∧ w2.cell? ⟨A + 1, 1, none⟩ = some (.slice (some ⟨ob, 0, none⟩) n ocap) ∧ w2.cell? ⟨C, 0, none⟩ = some (.int .i64 F) ∧ w2.cell? ⟨wr.heap.size, 0, none⟩ = some (.int .i64 T) := fun w2 h => by
        obtain ⟨ρ2, _, F2, _⟩ := h.st
        obtain ⟨c1, c2, c3, c4⟩ := cA1 (w1.drewN 1) ⟨rfl, rfl, rfl, rfl⟩
        exact ⟨F2.cell c1 (by show ¬ (100 ≤ ρr A); omega), F2.cell c2 (by show ¬ (100 ≤ ρr (A + 1)); omega), F2.cell c3 (by show ¬ (100 ≤ ρr C); rw [show ρr C = 0 from rCr]; omega), F2.cell c4 (by show ¬ (100 ≤ ρr wr.heap.size); omega)⟩
      have lk : ∀ w2, MkRes (w1.drewN 1) ρr X mb Mr (Lrun L rev os f) (pl ++ ps) ((pl.length + t + 1023) / 1024) (.returned (.tuple #[])) w2 →
          Calls Yba.prog 7 #[.func (.func 12) #[] #[.pointer (some ⟨A, 0, none⟩), .pointer (some ⟨A + 1, 0, none⟩), .pointer (some ⟨C, 0, none⟩), .pointer (some ⟨wr.heap.size, 0, none⟩)], .pointer (some ⟨X, 0, none⟩), .pointer (some ⟨kb, 0, none⟩), .pointer (some ⟨kc, 0, none⟩), .pointer (some ⟨ko, 0, none⟩)] w2 fun e w' => e = .returned (.tuple #[]) ∧
            ∃ ρ4 M4 ps4, Lp W1 ρ X mb kc M L pl rev os n (c + 1) w' ρ4 M4 ps4 ∧ Fr (fun r => r = 2 ∨ 100 ≤ r) ρr ρ4 wr w' := fun w2 h => by
        obtain ⟨ρ2, _, F2, hM2⟩ := h.st
        replace F2 : Fr (fun r => 100 ≤ r) ρr ρ2 w1 w2 := Fr.trans ((Fr.refl _ ρr w1).drewN 1) F2
        obtain ⟨d1, d2, d3, d4⟩ := cA2 w2 h
        have ok1 := f1.obj A'.calls (fun e => e)
        have ok2 := F2.obj ok1 (by rw [A'.rk]; omega)
        have rk2 : ρ2 kc = 2 := (F2.role _ (obj_lt ok1)).trans A'.rk
        have ob2 := F2.obj (f1.obj oBr (fun e => e)) (by omega)
        have rl : ∀ b, b < wr.heap.size → ρ2 b = ρr b := fun b hb' => F2.role b (Nat.lt_of_lt_of_le hb' f1.size)
        have lA : A < wr.heap.size := obj_lt oAr
        have lB : A + 1 < wr.heap.size := obj_lt oBr
        have lC : C < wr.heap.size := obj_lt oCr
        have rA2 : ρ2 A = 0 := (rl A lA).trans rAr
        have rB2 : ρ2 (A + 1) = 0 := (rl _ lB).trans rBr
        have rC2 : ρ2 C = 0 := (rl C lC).trans rCr
        have rD2 : ρ2 wr.heap.size = 0 := (F2.role _ (obj_lt oD)).trans rD
        have f3 : Fr (fun r => r = 2) ρ2 ρ2 w2 (w2.setCell ⟨kc, 0, none⟩ (.int .i64 ((c : Int) + 1))) := (Fr.refl _ ρ2 w2).setCell (a := ⟨kc, 0, none⟩) rk2 _
        have hkb : wr.cell? ⟨kb, 0, none⟩ = some (.int .i64 (pl.length : Int)) := A'.fr.cell hb1 (by show ¬ (ρ kb = 2 ∨ 100 ≤ ρ kb); have h1 : ρ kb < 2 := rb; omega)
        have rkb : ρr kb < 2 := by rw [A'.fr.role _ (World.block_lt_of_cell? W1 _ hb1)]; exact rb
        have hkb2 : w2.cell? ⟨kb, 0, none⟩ = some (.int .i64 (pl.length : Int)) := F2.cell (f1.cell hkb (fun e => e)) (by show ¬ (100 ≤ ρr kb); omega)
        refine locked_any X kb kc ko _ (fun w' => ∃ ρ4 M4 ps4, Lp W1 ρ X mb kc M L pl rev os n (c + 1) w' ρ4 M4 ps4 ∧ Fr (fun r => r = 2 ∨ 100 ≤ r) ρr ρ4 wr w') (pl.length : Int) (c : Int) F ((pl ++ ps).length : Int) ((c : Int) + 1) w2 (by rw [hF']; omega) (IntWalk.wrap64_in _ (by rw [hF']; omega)) (by rw [hlen, hFf]; omega) (IntWalk.wrap64_in _ (by rw [hlen]; omega)) rfl (IntWalk.wrap64_in _ (by omega)) hM2.n hkb2 ok2 ?_
        refine (step_any ρ2 X mb Mr L (pl ++ ps) ((pl.length + t + 1023) / 1024) rev os ob vb n ocap vcap f t A (A + 1) C wr.heap.size (w2.setCell ⟨kc, 0, none⟩ (.int .i64 ((c : Int) + 1))) (f3.cell d1 (by show ¬ (ρ2 A = 2); omega)) (f3.obj ob2 (by omega)) (by rw [← hFf]; exact f3.cell d3 (by show ¬ (ρ2 C = 2); omega)) (by rw [← hTt]; exact f3.cell d4 (by show ¬ (ρ2 wr.heap.size = 2); omega)) (by omega) (by omega) (by omega) (by omega)
          (hM2.fr f3 (fun r hr e => by omega)) (((Or1.fr (f1.mono (fun _ e => e.elim))).fr F2).frS f3 (fun r hr e => by omega)) (by omega) (by omega) (by omega) (by rw [hlen]; omega) (by omega) (fun k => by have := hL k; omega) (fun k hk => by
            have h1 := A'.iff k hk
            rw [m1, ← hf] at h1
            exact h1)).mono ?_
        rintro e w4 ⟨rfl, hs⟩
        rw [hf, ht] at hs
        exact ⟨rfl, A'.step hlt f1 F2 rfl hs⟩
      replace A' := hid A'
      replace oAr := hid oAr
      replace oBr := hid oBr
      replace rAr := hid rAr
      replace rBr := hid rBr
      replace rD := hid rD
      replace oD := hid oD
      replace f1 := hid f1
      replace hw1 := hid hw1
      replace I1 := hid I1
      replace R1 := hid R1
      replace Or1 := hid Or1
      replace hlen := hid hlen
      replace hl := hid hl
      replace hLl := hid hLl
      replace ma := hid ma
      replace cA1 := hid cA1
      replace cA2 := hid cA2
      replace lk := hid lk
      replace emax := hid emax
      replace ht := hid ht
      replace hf := hid hf
      replace hTt := hid hTt
      replace hFf := hid hFf
      clear m1 m2 m3 m4 m5 hF' hn' hpl' hlt
      go_wp2
      rw [← hw1]
      go_region_held3 (fun w' => w'.cell? ⟨A, 0, none⟩ = some (.pointer (some ⟨X, 0, none⟩)) ∧ w'.cell? ⟨A + 1, 1, none⟩ = some (.slice (some ⟨ob, 0, none⟩) n ocap) ∧ w'.cell? ⟨C, 0, none⟩ = some (.int .i64 F) ∧ w'.cell? ⟨wr.heap.size, 0, none⟩ = some (.int .i64 T))
        (first | exact cA2 _ hq | exact cA1 _ ⟨rfl, rfl, rfl, rfl⟩)
        (first | (go_at_call 11; refine Calls.mono ma ?_; intro e w2 hq; have he : e = .returned (.tuple #[]) := hq.st.choose_spec.1; subst he; replace hq := hid hq))
      obtain ⟨d1, d2, d3, d4⟩ := cA2 _ hq
      have lk2 := hid (lk _ hq)
      have KC : ∀ w' ρ4, Fr (fun r => r = 2 ∨ 100 ≤ r) ρr ρ4 wr w' → w'.cell? ⟨C, 0, none⟩ = some (.int .i64 F) := fun w' ρ4 h => h.cell cC (by show ¬ (ρr C = 2 ∨ 100 ≤ ρr C); rw [show ρr C = 0 from rCr]; omega)
      replace KC := hid KC
      go_wp2_with (first | (go_at_call 7; refine Calls.mono lk2 ?_; intro e w4 hz; obtain ⟨rfl, ρ4, M4, ps4, A4, F4⟩ := hz; have c4 := KC w4 ρ4 F4; replace A4 := hid A4; replace F4 := hid F4))
      have hF' : F = ((c * 1024 : Nat) : Int) := hF
      have r4 : ρ4 w4.heap.size = 0 := by
        obtain ⟨rh4, rc4, I4, _⟩ := Lp.ix A4
        exact I4.tidy _ (Nat.le_refl _)
      have o4 : objAt (w4.alloc (.cells #[.int .i64 G] 3)) w4.heap.size = some (.cells #[.int .i64 G] 3 (0, 0)) := heapN _ _ _ rfl
      refine ⟨⟨c + 1, w4.heap.size, G, ρ4, M4, ps4, rfl, Lp.keep A4 ((Fr.refl _ ρ4 w4).alloc _), o4, r4, ?_⟩, ?_⟩
      · show G = _
        rw [← hG, hF', Nat.add_mul]; omega
      · rw [fromOf_is (obj_cell o4 0), fromOf_is cC]
        clear hGw
        omega
    · have k1 : ¬ (F < (n : Int)) := by rw [hF']; exact fun e => hlt (Int.ofNat_lt.1 e)
      clear hF'
      replace A' := hid A'
      replace oAr := hid oAr
      replace oBr := hid oBr
      go_wp2
      refine bodyPost_end (results_none rfl _ _ _) rfl ?_
      have A' : Lp W1 ρ X mb kc M L pl rev os n c wr ρr Mr ps := A1
      exact ⟨c, ρr, Mr, ps, rfl, ⟨Fr.trans (Fr.mono F2 (fun _ e => e.elim)) A'.fr, A'.ix, A'.len, A'.pls, A'.ext, A'.iff, A'.calls, A'.rk, A'.lt⟩, Nat.le_of_not_lt hlt⟩
end Go.Proofs.Ybulkdljs
