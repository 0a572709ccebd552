/-
  The walks over applyInSteps$1 and LawS5621BWhole$1.
-/
import Derived.Test.YbulkdljsMakeWalk
namespace Go.Proofs.Ybulkdljs
open Go.RowKit
attribute [local go_sem] heapN heapP heapD setsN setsP setsD heapDN allocDN cellDN setsDN spl size_sets Value.oneCell'

/-- The index between makeRoom and takeRoom. -/
def MkSt (w : World) (ρ : Nat → Nat) (X mb : Nat) (M : Nat → Option Nat) (L : Nat → List Chg) (pl : List Plc) (nb : Nat) : Prop :=
  ∃ te V E ov tv ao vn vc rh rc ks vs, Jx w ρ X mb M L pl nb te V E (fun _ => 0) ov tv (.slice ao vn vc) rh rc ∧ ((ao = none ∧ vn = 0 ∧ vc = 0 ∧ te = tv) ∨ (∃ g, ao = some ⟨g, 0, none⟩ ∧ te = .slice ao vn vc)) ∧
    Rq w ρ M E rh rc ks vs ∧ (∀ k hb, k < 5 → M k = some hb → k ∉ ks → E k = V k) ∧ ks.length ≤ 1048576

theorem MkRes.st {w : World} {ρ : Nat → Nat} {X mb : Nat} {M : Nat → Option Nat} {L : Nat → List Chg} {pl : List Plc} {nb : Nat} {e : Ending} {w' : World} (h : MkRes w ρ X mb M L pl nb e w') :
    ∃ ρ', e = .returned (.tuple #[]) ∧ Fr (fun r => 100 ≤ r) ρ ρ' w w' ∧ MkSt w' ρ' X mb M L pl nb := by
  obtain ⟨ρ', te, V, E, ov, tv, ao, vn, vc, rh, rc, ks, vs, he, hf, r⟩ := h
  exact ⟨ρ', he, hf, te, V, E, ov, tv, ao, vn, vc, rh, rc, ks, vs, r⟩

theorem MkSt.fr {S : Nat → Prop} {w w' : World} {ρ ρ' : Nat → Nat} {X mb : Nat} {M : Nat → Option Nat} {L : Nat → List Chg} {pl : List Plc} {nb : Nat} (h : MkSt w ρ X mb M L pl nb) (f : Fr S ρ ρ' w w') (hS : ∀ r, 100 ≤ r → ¬ S r) : MkSt w' ρ' X mb M L pl nb := by
  obtain ⟨te, V, E, ov, tv, ao, vn, vc, rh, rc, ks, vs, J, ht, R, r⟩ := h
  exact ⟨te, V, E, ov, tv, ao, vn, vc, rh, rc, ks, vs, J.fr f (fun r h _ _ => hS r h), ht, R.fr f (hS _ (by omega)) (hS _ (by omega)), r⟩

theorem MkSt.n {w : World} {ρ : Nat → Nat} {X mb : Nat} {M : Nat → Option Nat} {L : Nat → List Chg} {pl : List Plc} {nb : Nat} (h : MkSt w ρ X mb M L pl nb) : w.cell? ⟨X, 3, none⟩ = some (.int .i64 (pl.length : Int)) := by
  obtain ⟨te, V, E, ov, tv, ao, vn, vc, rh, rc, ks, vs, J, _⟩ := h
  exact obj_cell J.ho 3

theorem take_any {w : World} {ρ : Nat → Nat} {X mb : Nat} {M : Nat → Option Nat} {L : Nat → List Chg} {pl : List Plc} {nb : Nat} (h : MkSt w ρ X mb M L pl nb) :
    Calls Yba.prog 13 #[.pointer (some ⟨X, 0, none⟩), .pointer (some ⟨X, 5, none⟩)] w (TkRes w ρ X mb M L pl nb) := by
  obtain ⟨te, V, E, ov, tv, ao, vn, vc, rh, rc, ks, vs, J, ht, R, hEV, hks⟩ := h
  rcases ht with ⟨rfl, rfl, rfl, rfl⟩ | ⟨g, rfl, rfl⟩
  · exact take_nil ρ X mb M L pl nb V E ov te rh rc ks vs w J R hEV hks
  · exact take_some ρ X mb M L pl nb V E ov tv rh rc g vn vc ks vs w J R hEV hks

/-- What a step leaves. -/
def StRes (w : World) (ρ : Nat → Nat) (X mb : Nat) (M : Nat → Option Nat) (L : Nat → List Chg) (pl : List Plc) (nb : Nat) (rev : Int) (os : Nat → OpS) (f t : Nat) (w' : World) : Prop :=
  ∃ ρ' M' ps rh rc, Fr (fun r => 100 ≤ r) ρ ρ' w w' ∧ Ix w' ρ' X mb M' (Lrun L rev os t) (pl ++ ps) nb (.slice none 0 0) rh rc ∧ R0 w' ρ' rh rc ∧ ps.length + f = t ∧ PlOps M' rev os f ps ∧ (∀ j b, M j = some b → M' j = some b) ∧ (∀ k, k < 5 → (M' k = none ↔ Lrun L rev os t k = []))

set_option maxRecDepth 100000 in
set_option maxHeartbeats 2000000 in
theorem step_any (ρ : Nat → Nat) (X mb : Nat) (M : Nat → Option Nat) (L : Nat → List Chg) (pl : List Plc) (nb : Nat) (rev : Int) (os : Nat → OpS) (ob vb n ocap vcap f t A B C D : Nat) (w : World)
    (hA : w.cell? ⟨A, 0, none⟩ = some (.pointer (some ⟨X, 0, none⟩))) (hB : objAt w B = some (.cells #[.int .i64 rev, .slice (some ⟨ob, 0, none⟩) n ocap, .int .i64 0, .slice (some ⟨vb, 0, none⟩) n vcap] 74 (0, 0))) (hC : w.cell? ⟨C, 0, none⟩ = some (.int .i64 f)) (hD : w.cell? ⟨D, 0, none⟩ = some (.int .i64 t))
    (rA : ρ A < 100) (rB : ρ B < 100) (rC : ρ C < 100) (rD : ρ D < 100)
    (hM : MkSt w ρ X mb M (Lrun L rev os f) pl nb) (hO : OpsAt w ρ ob vb n os) (hft : f ≤ t) (htn : t ≤ n) (hn : n ≤ 524288) (hroom : pl.length + (t - f) ≤ nb * 1024) (hnb : nb < 1048576) (hL : ∀ k, (L k).length ≤ 8192)
    (hiff : ∀ k, k < 5 → (M k = none ↔ Lrun L rev os f k = [])) :
    Calls Yba.prog 12 #[.pointer (some ⟨A, 0, none⟩), .pointer (some ⟨B, 0, none⟩), .pointer (some ⟨C, 0, none⟩), .pointer (some ⟨D, 0, none⟩)] w fun e w' => e = .returned (.tuple #[]) ∧ StRes w ρ X mb M L pl nb rev os f t w' := by
  have ta := hid (fun q => take_any (MkSt.fr hM ((Fr.refl (fun _ => False) ρ w).drewN q) (fun _ _ e => e)))
  have K1 : ∀ q w1, TkRes (w.drewN q) ρ X mb M (Lrun L rev os f) pl nb (.returned (.tuple #[])) w1 → w1.cell? ⟨A, 0, none⟩ = some (.pointer (some ⟨X, 0, none⟩)) ∧ w1.cell? ⟨B, 0, none⟩ = some (.int .i64 rev) ∧ w1.cell? ⟨B, 1, none⟩ = some (.slice (some ⟨ob, 0, none⟩) n ocap) ∧ w1.cell? ⟨B, 2, none⟩ = some (.int .i64 0) ∧ w1.cell? ⟨B, 3, none⟩ = some (.slice (some ⟨vb, 0, none⟩) n vcap) ∧ w1.cell? ⟨C, 0, none⟩ = some (.int .i64 f) ∧ w1.cell? ⟨D, 0, none⟩ = some (.int .i64 t) := fun q w1 h => by
    obtain ⟨rh, rc, _, F, _⟩ := h
    have oB := F.obj (w := w.drewN q) hB (by omega)
    exact ⟨F.cell (w := w.drewN q) hA (by show ¬ (100 ≤ ρ A); omega), obj_cell oB 0, obj_cell oB 1, obj_cell oB 2, obj_cell oB 3, F.cell (w := w.drewN q) hC (by show ¬ (100 ≤ ρ C); omega), F.cell (w := w.drewN q) hD (by show ¬ (100 ≤ ρ D); omega)⟩
  have K2 : ∀ q w1, TkRes (w.drewN q) ρ X mb M (Lrun L rev os f) pl nb (.returned (.tuple #[])) w1 → ∀ q', Calls Yba.prog 14 #[.pointer (some ⟨X, 0, none⟩), .agg #[.int .i64 rev, .slice (some ⟨ob, 0, none⟩) n ocap, .int .i64 0, .slice (some ⟨vb, 0, none⟩) n vcap], .int .i64 f, .int .i64 t] (w1.drewN q') fun e w' => e = .returned (.tuple #[]) ∧ StRes w ρ X mb M L pl nb rev os f t w' := fun q w1 h q' => by
    obtain ⟨rh, rc, _, F, I1, R1⟩ := h
    have Fq : Fr (fun _ => False) ρ ρ w1 (w1.drewN q') := (Fr.refl _ ρ w1).drewN q'
    have F0 : Fr (fun r => 100 ≤ r) ρ ρ w (w1.drewN q') := ((Fr.refl _ ρ w).drewN q).trans (F.trans (Fq.mono (fun _ e => e.elim)))
    refine (apply_any ρ X mb M L pl nb _ rh rc rev os ob vb n ocap vcap f t (w1.drewN q') (I1.fr Fq (fun _ _ e => e)) (hO.fr F0) hft htn hn hroom hnb hL hiff).mono ?_
    rintro e w2 ⟨ρ2, M2, ps, rfl, A2⟩
    exact ⟨rfl, ρ2, M2, ps, rh, rc, F0.trans (A2.fr.mono (fun _ e => e.1)), A2.ix, (R1.fr Fq (fun e => e) (fun e => e)).fr A2.fr (by omega) (by omega), A2.len, A2.pls, A2.ext, A2.iff⟩
  have K0 : ∀ w', Same w w' → w'.cell? ⟨A, 0, none⟩ = some (.pointer (some ⟨X, 0, none⟩)) := fun w' h => (h.cell _).trans hA
  have K3 : ∀ q w1, TkRes (w.drewN q) ρ X mb M (Lrun L rev os f) pl nb (.returned (.tuple #[])) w1 → w1.cell? ⟨A, 0, none⟩ = some (.pointer (some ⟨X, 0, none⟩)) := fun q w1 h => (K1 q w1 h).1
  replace K0 := hid K0
  replace K1 := hid K1
  replace K2 := hid K2
  replace K3 := hid K3
  clear hM hO hft htn hn hroom hnb hL hiff hB hC hD rA rB rC rD
  go_enter Yba.func12, Yba.ntmps12
  go_wp2
  go_region_held3 (fun w' => w'.cell? ⟨A, 0, none⟩ = some (.pointer (some ⟨X, 0, none⟩)))
    (first | exact K3 _ _ hq | exact K0 _ ⟨rfl, rfl, rfl, rfl⟩)
    (first | (go_at_call 13; refine Calls.mono (ta 1) ?_; intro e w1 hq; have he : e = .returned (.tuple #[]) := (by obtain ⟨_, _, h, _⟩ := hq; exact h); subst he; replace hq := hid hq))
  obtain ⟨c0, c1, c2, c3, c4, c5, c6⟩ := K1 _ _ hq
  have ka := K2 _ _ hq 0
  rw [World.drewN_zero] at ka
  replace ka := hid ka
  go_wp2_with (first | (go_at_call 14; refine Calls.mono ka ?_; intro e w2 hz; obtain ⟨rfl, hz⟩ := hz; replace hz := hid hz))
  refine bodyPost_end (results_none rfl _ _ _) rfl ?_
  exact ⟨rfl, hz⟩

set_option maxRecDepth 100000 in
/-- 'locked', as the law makes it: the step's closure is called once, behind 'calls++'. -/
theorem locked_any (X kb kc ko : Nat) (caps : Array Value) (R : World → Prop) (b c K N c1 : Int) (w : World) (hK : c * 1024 = K) (hKw : wrap64 K = K) (hN : b + K = N) (hNw : wrap64 N = N) (hc1 : c + 1 = c1) (hcw : wrap64 c1 = c1)
    (x3 : w.cell? ⟨X, 3, none⟩ = some (.int .i64 N)) (hb : w.cell? ⟨kb, 0, none⟩ = some (.int .i64 b)) (hc : objAt w kc = some (.cells #[.int .i64 c] 3 (0, 0)))
    (ca : Calls Yba.prog 12 caps (w.setCell ⟨kc, 0, none⟩ (.int .i64 c1)) fun e w' => e = .returned (.tuple #[]) ∧ R w') :
    Calls Yba.prog 7 #[.func (.func 12) #[] caps, .pointer (some ⟨X, 0, none⟩), .pointer (some ⟨kb, 0, none⟩), .pointer (some ⟨kc, 0, none⟩), .pointer (some ⟨ko, 0, none⟩)] w fun e w' => e = .returned (.tuple #[]) ∧ R w' := by
  have c0 : w.cell? ⟨kc, 0, none⟩ = some (.int .i64 c) := obj_cell hc 0
  have c2 : w.frozen? ⟨kc, 0, none⟩ = false := obj_frozen hc 0
  replace ca := hid ca
  clear hc
  go_enter Yba.func7, Yba.ntmps7
  go_wp2_with (first | (go_at_call 12; refine Calls.mono ca ?_; intro e w2 hz; obtain ⟨rfl, hz⟩ := hz; replace hz := hid hz))
  refine bodyPost_end (results_none rfl _ _ _) rfl ?_
  exact ⟨rfl, hz⟩
end Go.Proofs.Ybulkdljs
