/-
  The walk over (*index).apply.
-/
import Derived.Test.YbulkdljsIx
import Derived.Test.YbulkdljsLast
namespace Go.Proofs.Ybulkdljs
open Go.RowKit
attribute [local go_sem ↓] ld56_fold st56_fold ld54_fold st54_fold ld70_fold st70_fold
attribute [local go_sem] st56_whole st54_whole st70_whole ld70_whole whole_ok wstore_ok heapN heapP heapD setsN setsP setsD heapDN allocDN cellDN setsDN spl size_sets Value.oneCell'

/-- One operation of the transaction, as the law lays it. -/
structure OpS where
  k : Nat
  del : Bool
  lease : Int
  addr : Int
  size : Int
  sum : Int

/-- The operations and the values of a transaction, in their two rows. -/
structure OpsAt (w : World) (ρ : Nat → Nat) (ob vb n : Nat) (os : Nat → OpS) : Prop where
  op : ∀ i, i < n → (os i).k < 5 ∧ ∃ kv, w.rangeAt ob (i * 13) (opA (if (os i).del then 2 else 1) (os i).lease kv).toList ∧ KeyAt w kv (os i).k ∧ ∀ g, kv.ownBlock = some g → g < w.heap.size ∧ ρ g = 0
  val : ∀ i, i < n → w.rangeAt vb (i * 19) (valA (os i).addr (os i).size (os i).sum).toList
  ro : ob < w.heap.size ∧ ρ ob < 100 ∧ ρ ob ≠ 2
  rv : vb < w.heap.size ∧ ρ vb < 100 ∧ ρ vb ≠ 2

theorem Fr.range {S : Nat → Prop} {ρ ρ' : Nat → Nat} {w w' : World} (h : Fr S ρ ρ' w w') {b o : Nat} {cs : List Value} (hc : w.rangeAt b o cs) (hs : ¬ S (ρ b)) : w'.rangeAt b o cs := fun j v hv => h.cell (a := ⟨b, o + j, none⟩) (hc j v hv) hs

theorem KeyAt.fr {S : Nat → Prop} {ρ ρ' : Nat → Nat} {w w' : World} {kv : Value} {k : Nat} (h : KeyAt w kv k) (f : Fr S ρ ρ' w w') (hs : ∀ g, kv.ownBlock = some g → ¬ S (ρ g)) : KeyAt w' kv k := by
  obtain ⟨b, cap, rfl, hc⟩ := h
  exact ⟨b, cap, rfl, fun j hj => f.cell (hc j hj) (hs b rfl)⟩

theorem OpsAt.frS {S : Nat → Prop} {ρ ρ' : Nat → Nat} {w w' : World} {ob vb n : Nat} {os : Nat → OpS} (h : OpsAt w ρ ob vb n os) (f : Fr S ρ ρ' w w') (hS : ∀ r, r < 100 ∧ r ≠ 2 → ¬ S r) : OpsAt w' ρ' ob vb n os := by
  have hsz := f.size
  have ho := h.ro
  have hv := h.rv
  refine ⟨fun i hi => ?_, fun i hi => f.range (h.val i hi) (hS _ hv.2), ⟨by omega, by rw [f.role _ ho.1]; exact ho.2⟩, ⟨by omega, by rw [f.role _ hv.1]; exact hv.2⟩⟩
  obtain ⟨hk, kv, hr, hka, hkr⟩ := h.op i hi
  exact ⟨hk, kv, f.range hr (hS _ ho.2), hka.fr f (fun g hg => hS _ (by rw [(hkr g hg).2]; omega)), fun g hg => by
    have := hkr g hg
    exact ⟨by omega, by rw [f.role _ this.1]; exact this.2⟩⟩

theorem OpsAt.fr {ρ ρ' : Nat → Nat} {w w' : World} {ob vb n : Nat} {os : Nat → OpS} (h : OpsAt w ρ ob vb n os) (f : Fr (fun r => 100 ≤ r) ρ ρ' w w') : OpsAt w' ρ' ob vb n os := h.frS f (fun r hr e => by omega)

/-! ### The plain model -/
def stepL (L : Nat → List Chg) (rev : Int) (i : Nat) (o : OpS) : Nat → List Chg :=
  fun j => if j = o.k then L j ++ [nextC (L j) o.del rev i o.lease o.addr o.size o.sum] else L j
def Lrun (L : Nat → List Chg) (rev : Int) (os : Nat → OpS) : Nat → (Nat → List Chg)
  | 0 => L
  | i + 1 => stepL (Lrun L rev os i) rev i (os i)
theorem Lrun_len (L : Nat → List Chg) (rev : Int) (os : Nat → OpS) (k : Nat) : ∀ i, (Lrun L rev os i k).length ≤ (L k).length + i
  | 0 => Nat.le_refl _
  | i + 1 => by
    have := Lrun_len L rev os k i
    simp only [Lrun, stepL]
    split
    · simp; omega
    · omega

/-- The places of operations from 'f' on. -/
def PlOps (M : Nat → Option Nat) (rev : Int) (os : Nat → OpS) (f : Nat) (ps : List Plc) : Prop :=
  ∀ j p, ps[j]? = some p → p.main = rev ∧ p.sub = ((f + j : Nat) : Int) ∧ M (os (f + j)).k = some p.h

/-- The loop's state: operations f .. i - 1 are in the index. -/
structure Ap (w : World) (ρ : Nat → Nat) (X mb : Nat) (M : Nat → Option Nat) (L : Nat → List Chg) (pl : List Plc) (nb : Nat) (rb rh rc : Value) (rev : Int) (os : Nat → OpS) (f i : Nat) (wr : World) (ρr : Nat → Nat) (Mr : Nat → Option Nat) (ps : List Plc) : Prop where
  fr : Fr (fun r => 100 ≤ r ∧ r ≠ 106 ∧ r ≠ 107) ρ ρr w wr
  ix : Ix wr ρr X mb Mr (Lrun L rev os i) (pl ++ ps) nb rb rh rc
  len : ps.length + f = i
  pls : PlOps Mr rev os f ps
  ext : ∀ j b, M j = some b → Mr j = some b
  iff : ∀ k, k < 5 → (Mr k = none ↔ Lrun L rev os i k = [])

def ApRes (w : World) (ρ : Nat → Nat) (X mb : Nat) (M : Nat → Option Nat) (L : Nat → List Chg) (pl : List Plc) (nb : Nat) (rb rh rc : Value) (rev : Int) (os : Nat → OpS) (f t : Nat) (e : Ending) (w' : World) : Prop :=
  ∃ ρ' M' ps, e = .returned (.tuple #[]) ∧ Ap w ρ X mb M L pl nb rb rh rc rev os f t w' ρ' M' ps

theorem info56z : (Yba.prog.info? 56).map (fun i => (i.zero, i.size, i.bytes)) = some (some (.agg (chgA 0 0 0 0 0 0 0 0)), 24, 72) := by kernel_rfl

theorem change_lit (hb : Nat) (del : Bool) (kd lease : Int) (hkd : kd = (if del then 2 else 1)) (kv : Value) (m s a z u : Int) (v : Value) (l : List Chg) (c : Chg) (hc : c = nextC l del m s lease a z u) (w : World) (hn : l.length ≤ 1048576)
    (h : w.cell? ⟨hb, 1, none⟩ = some v) (ho : w.ownsRow 0 56 24 v l.length (chgs l)) :
    Calls Yba.prog 18 #[.pointer (some ⟨hb, 0, none⟩), .agg (opA kd lease kv), .agg #[.int .i64 m, .int .i64 s], .agg (valA a z u)] w fun e w' =>
      e = .returned (.agg (chgA c.main c.sub c.create c.version c.addr c.size c.sum c.lease)) ∧ Below w.heap.size w w' := by
  subst hkd
  subst hc
  exact change_any hb 0 del lease kv m s a z u v l w hn h ho

set_option linter.unusedSimpArgs false in
set_option maxRecDepth 100000 in
set_option maxHeartbeats 4000000 in
theorem apply_any (ρ : Nat → Nat) (X mb : Nat) (M : Nat → Option Nat) (L : Nat → List Chg) (pl : List Plc) (nb : Nat) (rb rh rc : Value) (rev : Int) (os : Nat → OpS) (ob vb n ocap vcap f t : Nat) (w : World)
    (hI : Ix w ρ X mb M (Lrun L rev os f) pl nb rb rh rc) (hO : OpsAt w ρ ob vb n os) (hft : f ≤ t) (htn : t ≤ n) (hn : n ≤ 524288) (hroom : pl.length + (t - f) ≤ nb * 1024) (hnb : nb < 1048576) (hL : ∀ k, (L k).length ≤ 8192)
    (hiff : ∀ k, k < 5 → (M k = none ↔ Lrun L rev os f k = [])) :
    Calls Yba.prog 14 #[.pointer (some ⟨X, 0, none⟩), .agg #[.int .i64 rev, .slice (some ⟨ob, 0, none⟩) n ocap, .int .i64 0, .slice (some ⟨vb, 0, none⟩) n vcap], .int .i64 f, .int .i64 t] w
      (ApRes w ρ X mb M L pl nb rb rh rc rev os f t) := by
  obtain ⟨W0, hW0⟩ : ∃ W0, W0 = w.alloc (.cells #[.int .i64 rev, .slice (some ⟨ob, 0, none⟩) n ocap, .int .i64 0, .slice (some ⟨vb, 0, none⟩) n vcap] 74) := ⟨_, rfl⟩
  have F0 : Fr (fun _ => False) ρ ρ w W0 := by rw [hW0]; exact (Fr.refl _ ρ w).alloc _
  have o0 : objAt W0 w.heap.size = some (.cells #[.int .i64 rev, .slice (some ⟨ob, 0, none⟩) n ocap, .int .i64 0, .slice (some ⟨vb, 0, none⟩) n vcap] 74 (0, 0)) := by rw [hW0]; exact heapN _ _ _ rfl
  have r0 : ρ w.heap.size = 0 := hI.tidy _ (Nat.le_refl _)
  have A0 : Ap W0 ρ X mb M L pl nb rb rh rc rev os f f W0 ρ M [] := ⟨Fr.refl _ _ _, by rw [List.append_nil]; exact hI.fr F0 (fun _ _ h => h), by simp, fun j p h => by simp at h, fun _ _ h => h, hiff⟩
  have O0 : OpsAt W0 ρ ob vb n os := hO.fr (F0.mono (fun _ h => h.elim))
  clear hI hO hiff
  obtain ⟨i0, hi, hz0, hz1, hz2⟩ := info_parts info56z
  replace hi := hid hi
  replace hz0 := hid hz0
  replace A0 := hid A0
  replace O0 := hid O0
  replace F0 := hid F0
  replace o0 := hid o0
  replace hW0 := hid hW0
  go_enter Yba.func14, Yba.ntmps14
  go_wp2
  rw [← hW0]
  go_loopw [8] (fun v wr => ∃ (i : Nat) (ρr : Nat → Nat) (Mr : Nat → Option Nat) (ps : List Plc), i ≤ t ∧ v = .int .i64 i ∧ Hid (Ap W0 ρ X mb M L pl nb rb rh rc rev os f i wr ρr Mr ps)) (fun v _ => t - (intOf v).toNat)
  case atStart => exact ⟨f, _, _, _, hft, rfl, A0⟩
  case round =>
    obtain ⟨i, ρr, Mr, ps, hit, rfl, A⟩ := hrel
    clear A0
    have A1 : Ap W0 ρ X mb M L pl nb rb rh rc rev os f i wr ρr Mr ps := A
    by_cases hlt : i < t
    · have k1 : (i : Int) < (t : Int) := by omega
      have k2 : (i : Int) < (n : Int) := by omega
      have k3 : (0 : Int) ≤ (i : Int) := by omega
      have oT : objAt wr w.heap.size = some (.cells #[.int .i64 rev, .slice (some ⟨ob, 0, none⟩) n ocap, .int .i64 0, .slice (some ⟨vb, 0, none⟩) n vcap] 74 (0, 0)) := A1.fr.obj o0 (by rw [r0]; omega)
      have rT : ρr w.heap.size = 0 := (A1.fr.role _ (obj_lt o0)).trans r0
      have Or : OpsAt wr ρr ob vb n os := OpsAt.fr O0 (A1.fr.mono (fun _ e => e.1))
      obtain ⟨hk5, kv, hrg, hka, hkr⟩ := Or.op i (by omega)
      obtain ⟨o, ho⟩ : ∃ o, o = os i := ⟨_, rfl⟩
      rw [← ho] at hk5 hrg hka
      obtain ⟨kb, kc, hkve, _⟩ := id hka
      obtain ⟨kl, hkl⟩ : ∃ kl, (keyS o.k).data.toList.length = kl := ⟨_, rfl⟩
      rw [hkl] at hkve
      subst hkve
      replace hkl := hid hkl
      obtain ⟨kd, hkd⟩ : ∃ kd : Int, kd = (if o.del then 2 else 1) := ⟨_, rfl⟩
      rw [← hkd] at hrg
      have t0 : wr.cell? ⟨w.heap.size, 0, none⟩ = some (.int .i64 rev) := obj_cell oT 0
      have t1 : wr.cell? ⟨w.heap.size, 1, none⟩ = some (.slice (some ⟨ob, 0, none⟩) n ocap) := obj_cell oT 1
      have l70 : (ldT 70 (.pointer (some ⟨ob, i * 13, none⟩))).run Yba.prog wr = .ok (.agg (opA kd o.lease (.slice (some ⟨kb, 0, none⟩) kl kc))) wr := ld70_mid hrg rfl
      obtain ⟨w1, hw1⟩ : ∃ w1, w1 = wr.alloc (.cells (opA kd o.lease (.slice (some ⟨kb, 0, none⟩) kl kc)) 70) := ⟨_, rfl⟩
      have F1 : Fr (fun _ => False) ρr ρr wr w1 := by rw [hw1]; exact (Fr.refl _ ρr wr).alloc _
      have o1 : objAt w1 wr.heap.size = some (.cells (opA kd o.lease (.slice (some ⟨kb, 0, none⟩) kl kc)) 70 (0, 0)) := by rw [hw1]; exact heapN _ _ _ rfl
      have r1 : ρr wr.heap.size = 0 := A1.ix.tidy _ (Nat.le_refl _)
      have ha := hid (historyOf_any ρr X mb o.k _ Mr _ _ nb rb rh rc w1 hk5 (A1.ix.fr F1 (fun _ _ h => h)) (hka.fr F1 (fun _ _ h => h)))
      replace A1 := hid A1
      replace oT := hid oT
      replace rT := hid rT
      replace Or := hid Or
      replace hrg := hid hrg
      replace hka := hid hka
      replace hkr := hid hkr
      replace ho := hid ho
      replace hkd := hid hkd
      replace hw1 := hid hw1
      replace F1 := hid F1
      replace o1 := hid o1
      replace r1 := hid r1
      go_wp2_with (first | (go_at_call 17; rw [← hw1]; refine Calls.mono ha ?_; intro e w2 hq; obtain ⟨ρ2, M2, hb, rfl, F2, I2, hM2, hext, hoth⟩ := hq
                            replace F2 := hid F2
                            replace I2 := hid I2
                            replace hM2 := hid hM2
                            replace hext := hid hext
                            replace hoth := hid hoth
                            have u0 : w2.cell? ⟨w.heap.size, 0, none⟩ = some (.int .i64 rev) := Fr.cell F2 (Fr.cell F1 t0 (fun h => h)) (by show ¬ (100 ≤ ρr w.heap.size ∧ ρr w.heap.size ≠ 106 ∧ ρr w.heap.size ≠ 107); rw [rT]; omega)))
      have I2' : Ix w2 ρ2 X mb M2 (Lrun L rev os i) (pl ++ ps) nb rb rh rc := I2
      obtain ⟨hhr, v, hho, hhw, hhg⟩ := I2'.his o.k hb hk5 hM2
      obtain ⟨w3, hw3⟩ : ∃ w3, w3 = w2.alloc (.cells #[.int .i64 rev, .int .i64 i] 49) := ⟨_, rfl⟩
      have F3 : Fr (fun _ => False) ρ2 ρ2 w2 w3 := by rw [hw3]; exact (Fr.refl _ ρ2 w2).alloc _
      have F12 : Fr (fun r => 100 ≤ r ∧ r ≠ 106 ∧ r ≠ 107) ρr ρ2 wr w2 := (Fr.mono F1 (fun _ h => h.elim)).trans F2
      have F13 : Fr (fun r => 100 ≤ r ∧ r ≠ 106 ∧ r ≠ 107) ρr ρ2 wr w3 := F12.trans (F3.mono (fun _ h => h.elim))
      have hS3 : w3.drew.cell? ⟨hb, 1, none⟩ = some v ∧ objAt w3.drew wr.heap.size = some (.cells (opA kd o.lease (.slice (some ⟨kb, 0, none⟩) kl kc)) 70 (0, 0)) ∧ w3.drew.cell? ⟨w2.heap.size, 0, none⟩ = some (.int .i64 rev) ∧ w3.drew.cell? ⟨w2.heap.size, 1, none⟩ = some (.int .i64 i) ∧ w3.drew.cell? ⟨w.heap.size, 3, none⟩ = some (.slice (some ⟨vb, 0, none⟩) n vcap) ∧ w3.drew.rangeAt vb (i * 19) (valA o.addr o.size o.sum).toList :=
        ⟨F3.cell (obj_cell hho 1) (fun h => h), Fr.obj F3 (Fr.obj F2 o1 (by rw [r1]; omega)) (fun h => h), by rw [hw3]; exact World.cell?_alloc_at _ _ _ _ rfl, by rw [hw3]; exact World.cell?_alloc_at _ _ _ _ rfl,
         F13.cell (obj_cell oT 3) (by show ¬ (100 ≤ ρr w.heap.size ∧ ρr w.heap.size ≠ 106 ∧ ρr w.heap.size ≠ 107); rw [rT]; omega), F13.range (by rw [show o = os i from ho]; exact Or.val i (by omega)) (by have := Or.rv; omega)⟩
      have l54 : ∀ w' : World, w'.rangeAt vb (i * 19) (valA o.addr o.size o.sum).toList → (ldT 54 (.pointer (some ⟨vb, i * 19, none⟩))).run Yba.prog w' = .ok (.agg (valA o.addr o.size o.sum)) w' := fun w' h => ld54_mid h rfl
      have q1 : ρ2 wr.heap.size = 0 := (Fr.role F2 _ (obj_lt o1)).trans r1
      have q2 : ρ2 w2.heap.size = 0 := I2'.tidy _ (Nat.le_refl _)
      have q3 : ρ2 w.heap.size = 0 := (F12.role _ (obj_lt oT)).trans rT
      have q4 : ρ2 vb < 100 ∧ ρ2 vb ≠ 2 := by rw [F12.role _ (OpsAt.rv Or).1]; exact (OpsAt.rv Or).2
      have SF : ∀ w', Fr (fun r => r = 120 + o.k) ρ2 ρ2 w3 w' → w'.cell? ⟨hb, 1, none⟩ = some v ∧ objAt w' wr.heap.size = some (.cells (opA kd o.lease (.slice (some ⟨kb, 0, none⟩) kl kc)) 70 (0, 0)) ∧ w'.cell? ⟨w2.heap.size, 0, none⟩ = some (.int .i64 rev) ∧ w'.cell? ⟨w2.heap.size, 1, none⟩ = some (.int .i64 i) ∧ w'.cell? ⟨w.heap.size, 3, none⟩ = some (.slice (some ⟨vb, 0, none⟩) n vcap) ∧ w'.rangeAt vb (i * 19) (valA o.addr o.size o.sum).toList := fun w' hB => by
        obtain ⟨s1, s2, s3, s4, s5, s6⟩ := hS3
        exact ⟨hB.cell (w := w3) s1 (by show ¬ (ρ2 hb = _); omega), hB.obj (w := w3) s2 (by omega), hB.cell (w := w3) s3 (by show ¬ (ρ2 w2.heap.size = _); omega), hB.cell (w := w3) s4 (by show ¬ (ρ2 w2.heap.size = _); omega), hB.cell (w := w3) s5 (by show ¬ (ρ2 w.heap.size = _); omega), hB.range s6 (by omega)⟩
      have oH3 : objAt w3 hb = some (.cells #[.string (keyS o.k), v, .int .i64 0] 47 (0, 0)) := F3.obj hho (fun h => h)
      obtain ⟨c, hc⟩ : ∃ c, c = nextC (Lrun L rev os i o.k) o.del rev i o.lease o.addr o.size o.sum := ⟨_, rfl⟩
      have hlen : (Lrun L rev os i o.k).length ≤ 1048576 := by
        have h1 := Lrun_len L rev os o.k i
        have h2 := hL o.k
        omega
      have hhw3 : w3.ownsRow 0 56 24 v (Lrun L rev os i o.k).length (chgs (Lrun L rev os i o.k)) := F3.owns hhw (fun _ _ h => h)
      replace SF := hid SF
      replace oH3 := hid oH3
      replace q1 := hid q1
      replace q2 := hid q2
      replace q3 := hid q3
      replace q4 := hid q4
      replace F3 := hid F3
      replace F12 := hid F12
      replace F13 := hid F13
      replace hc := hid hc
      replace hhw3 := hid hhw3
      replace hhw := hid hhw
      replace hho := hid hho
      replace hhr := hid hhr
      replace hhg := hid hhg
      replace I2' := hid I2'
      replace hw3 := hid hw3
      rw [← hw3]
      refine wp_region_noPanic (wp_region_N (fun w' => w'.cell? ⟨hb, 1, none⟩ = some v ∧ objAt w' wr.heap.size = some (.cells (opA kd o.lease (.slice (some ⟨kb, 0, none⟩) kl kc)) 70 (0, 0)) ∧ w'.cell? ⟨w2.heap.size, 0, none⟩ = some (.int .i64 rev) ∧ w'.cell? ⟨w2.heap.size, 1, none⟩ = some (.int .i64 i) ∧ w'.cell? ⟨w.heap.size, 3, none⟩ = some (.slice (some ⟨vb, 0, none⟩) n vcap) ∧ w'.rangeAt vb (i * 19) (valA o.addr o.size o.sum).toList) 18 (by kernel_rfl) ?_)
      replace hS3 := hid hS3
      refine wpAnyN_take (i := 0) (v := .pointer (some ⟨hb, 0, none⟩)) (by kernel_rfl) rfl (by kernel_rfl) (by kernel_rfl) (by kernel_rfl) (fun _ _ _ h => h) (by rfl) (fun w' hS => ?_) hS3 ?_
      · obtain ⟨s1, s2, s3, s4, s5, s6⟩ := hS
        go_simp
      simp only [Act.put, List.setIfInBounds_toArray, List.set_cons_zero, List.set_cons_succ]
      refine wpAnyN_take (i := 1) (v := .pointer (some ⟨hb, 0, none⟩)) (by kernel_rfl) rfl (by kernel_rfl) (by kernel_rfl) (by kernel_rfl) (fun _ _ _ h => h) (by rfl) (fun w' hS => ?_) hS3 ?_
      · obtain ⟨s1, s2, s3, s4, s5, s6⟩ := hS
        go_simp
      simp only [Act.put, List.setIfInBounds_toArray, List.set_cons_zero, List.set_cons_succ]
      refine wpAnyN_take (i := 2) (v := .pointer (some ⟨hb, 0, none⟩)) (by kernel_rfl) rfl (by kernel_rfl) (by kernel_rfl) (by kernel_rfl) (fun _ _ _ h => h) (by rfl) (fun w' hS => ?_) hS3 ?_
      · obtain ⟨s1, s2, s3, s4, s5, s6⟩ := hS
        go_simp
      simp only [Act.put, List.setIfInBounds_toArray, List.set_cons_zero, List.set_cons_succ]
      refine wpAnyN_take (i := 3) (v := .pointer (some ⟨hb, 1, none⟩)) (by kernel_rfl) rfl (by kernel_rfl) (by kernel_rfl) (by kernel_rfl) (fun _ _ _ h => h) (by rfl) (fun w' hS => ?_) hS3 ?_
      · obtain ⟨s1, s2, s3, s4, s5, s6⟩ := hS
        go_simp
      simp only [Act.put, List.setIfInBounds_toArray, List.set_cons_zero, List.set_cons_succ]
      refine wpAnyN_take (i := 4) (v := v) (by kernel_rfl) rfl (by kernel_rfl) (by kernel_rfl) (by kernel_rfl) (fun _ _ _ h => h) (by rfl) (fun w' hS => ?_) hS3 ?_
      · obtain ⟨s1, s2, s3, s4, s5, s6⟩ := hS
        go_simp
      simp only [Act.put, List.setIfInBounds_toArray, List.set_cons_zero, List.set_cons_succ]
      refine wpAnyN_take (i := 5) (v := .pointer (some ⟨hb, 0, none⟩)) (by kernel_rfl) rfl (by kernel_rfl) (by kernel_rfl) (by kernel_rfl) (fun _ _ _ h => h) (by rfl) (fun w' hS => ?_) hS3 ?_
      · obtain ⟨s1, s2, s3, s4, s5, s6⟩ := hS
        go_simp
      simp only [Act.put, List.setIfInBounds_toArray, List.set_cons_zero, List.set_cons_succ]
      refine wpAnyN_take (i := 6) (v := .agg (opA kd o.lease (.slice (some ⟨kb, 0, none⟩) kl kc))) (by kernel_rfl) rfl (by kernel_rfl) (by kernel_rfl) (by kernel_rfl) (fun _ _ _ h => h) (by rfl) (fun w' hS => ?_) hS3 ?_
      · obtain ⟨s1, s2, s3, s4, s5, s6⟩ := hS
        go_simp
      simp only [Act.put, List.setIfInBounds_toArray, List.set_cons_zero, List.set_cons_succ]
      refine wpAnyN_take (i := 7) (v := .agg #[.int .i64 rev, .int .i64 i]) (by kernel_rfl) rfl (by kernel_rfl) (by kernel_rfl) (by kernel_rfl) (fun _ _ _ h => h) (by rfl) (fun w' hS => ?_) hS3 ?_
      · obtain ⟨s1, s2, s3, s4, s5, s6⟩ := hS
        go_simp
      simp only [Act.put, List.setIfInBounds_toArray, List.set_cons_zero, List.set_cons_succ]
      refine wpAnyN_take (i := 8) (v := .pointer (some ⟨w.heap.size, 3, none⟩)) (by kernel_rfl) rfl (by kernel_rfl) (by kernel_rfl) (by kernel_rfl) (fun _ _ _ h => h) (by rfl) (fun w' hS => ?_) hS3 ?_
      · obtain ⟨s1, s2, s3, s4, s5, s6⟩ := hS
        go_simp
      simp only [Act.put, List.setIfInBounds_toArray, List.set_cons_zero, List.set_cons_succ]
      refine wpAnyN_take (i := 9) (v := .slice (some ⟨vb, 0, none⟩) n vcap) (by kernel_rfl) rfl (by kernel_rfl) (by kernel_rfl) (by kernel_rfl) (fun _ _ _ h => h) (by rfl) (fun w' hS => ?_) hS3 ?_
      · obtain ⟨s1, s2, s3, s4, s5, s6⟩ := hS
        go_simp
      simp only [Act.put, List.setIfInBounds_toArray, List.set_cons_zero, List.set_cons_succ]
      refine wpAnyN_take (i := 10) (v := .int .i64 i) (by kernel_rfl) rfl (by kernel_rfl) (by kernel_rfl) (by kernel_rfl) (fun _ _ _ h => h) (by rfl) (fun w' hS => ?_) hS3 ?_
      · obtain ⟨s1, s2, s3, s4, s5, s6⟩ := hS
        go_simp
      simp only [Act.put, List.setIfInBounds_toArray, List.set_cons_zero, List.set_cons_succ]
      refine wpAnyN_take (i := 11) (v := .pointer (some ⟨vb, i * 19, none⟩)) (by kernel_rfl) rfl (by kernel_rfl) (by kernel_rfl) (by kernel_rfl) (fun _ _ _ h => h) (by rfl) (fun w' hS => ?_) hS3 ?_
      · obtain ⟨s1, s2, s3, s4, s5, s6⟩ := hS
        go_simp
      simp only [Act.put, List.setIfInBounds_toArray, List.set_cons_zero, List.set_cons_succ]
      refine wpAnyN_take (i := 12) (v := .agg (valA o.addr o.size o.sum)) (by kernel_rfl) rfl (by kernel_rfl) (by kernel_rfl) (by kernel_rfl) (fun _ _ _ h => h) (by rfl) (fun w' hS => ?_) hS3 ?_
      · obtain ⟨s1, s2, s3, s4, s5, s6⟩ := hS
        go_simp
      simp only [Act.put, List.setIfInBounds_toArray, List.set_cons_zero, List.set_cons_succ]
      refine wpAnyN_one (i := 13) (by kernel_rfl) rfl (by rfl) (fun K hK => ?_)
      go_simp
      refine (change_lit hb o.del kd o.lease hkd _ rev i o.addr o.size o.sum v (Lrun L rev os i o.k) c hc _ hlen ?_ ?_).mono ?_
      · exact hS3.1
      · exact hhw3
      rintro e wc ⟨rfl, hBc⟩
      replace hBc : Below w3.heap.size w3 wc := ⟨hBc.os, hBc.tape, hBc.output, hBc.size, hBc.block⟩
      have FC : Fr (fun r => r = 120 + o.k) ρ2 ρ2 w3 wc := Fr.ofBelow hBc
      refine hK.out _ _ (fun _ => SF wc FC) ?_
      clear hK
      refine wpAnyN_one (i := 14) (by kernel_rfl) rfl (by rfl) (fun K hK => ?_)
      go_simp
      obtain ⟨w4, hw4⟩ : ∃ w4, w4 = wc.alloc (.cells (chgA c.main c.sub c.create c.version c.addr c.size c.sum c.lease) 56) := ⟨_, rfl⟩
      have F4 : Fr (fun r => r = 120 + o.k) ρ2 ρ2 w3 w4 := by rw [hw4]; exact FC.alloc _
      rw [← hw4]
      refine hK.out _ _ (fun _ => SF w4 F4) ?_
      clear hK
      refine wpAnyN_one (i := 15) (by kernel_rfl) rfl (by rfl) (fun K hK => ?_)
      have hown4 : w4.ownsRow 0 56 24 v (Lrun L rev os i o.k).length (chgs (Lrun L rev os i o.k)) := by
        rw [hw4]
        exact World.ownsRow.alloc (Fr.owns (Fr.ofBelow (S := fun _ => False) (ρ := ρ2) hBc) hhw3 (fun _ _ h => h)) _
      have hsz4 : w4.heap.size = wc.heap.size + 1 := by rw [hw4]; simp
      refine wp_append_lies w4 (.tmp 35) (.tmp 45) 38 (by rfl) 0 56 i0 (.agg (chgA 0 0 0 0 0 0 0 0)) 24 72 Yba.underlying38 hi hz0 hz1 hz2 rfl (by decide) v (Lrun L rev os i o.k).length (chgs (Lrun L rev os i o.k)) (by rfl) hown4 ⟨wc.heap.size, 0, none⟩ 1 1 c.cells (by rfl) rfl ?_ c.one (by decide) (by unfold maxLen; omega) (by omega) (Nat.zero_le _) (wc.heap.size + 1) hsz4 ?_
      · exact World.news_of_block (by rw [hw4]; exact heapN _ _ _ rfl)
      intro g cap w5 hown5 hgr5 hat5 hlt5
      have F5 : Fr (fun r => r = 120 + o.k) ρ2 ρ2 w3 w5 := F4.grown hgr5 (fun g e => hhg g e)
      refine hK.out _ _ (fun _ => SF w5 F5) ?_
      clear hK
      simp only [Act.put, List.setIfInBounds_toArray, List.set_cons_zero, List.set_cons_succ]
      have oH5 : objAt w5 hb = some (.cells #[.string (keyS o.k), v, .int .i64 0] 47 (0, 0)) := F5.obj oH3 (by rw [hhr]; omega)
      have d1 : w5.cell? ⟨hb, 1, none⟩ = some v := obj_cell oH5 1
      have d2 : w5.frozen? ⟨hb, 1, none⟩ = false := obj_frozen oH5 1
      replace hown5 := hid hown5
      replace hgr5 := hid hgr5
      replace hat5 := hid hat5
      replace F5 := hid F5
      replace F4 := hid F4
      replace FC := hid FC
      replace hBc := hid hBc
      replace oH5 := hid oH5
      replace hw4 := hid hw4
      replace hown4 := hid hown4
      replace hsz4 := hid hsz4
      refine wpAnyN_one (i := 16) (by kernel_rfl) rfl (by rfl) (fun K hK => ?_)
      go_simp
      refine hK.out _ _ (fun _ => SF w5 F5) ?_
      clear hK
      refine wpAnyN_one (i := 17) (by kernel_rfl) rfl (by rfl) (fun K hK => ?_)
      go_simp
      refine hK.out _ _ (fun _ => SF w5 F5) ?_
      clear hK
      refine wpAnyN_one (i := 18) (by kernel_rfl) rfl (by rfl) (fun K hK => ?_)
      go_simp
      refine hK.out _ _ (fun h => absurd rfl h) ?_
      clear hK
      refine wpAnyN_done (by kernel_rfl) ?_ _
      refine NoPanic.normal ?_
      obtain ⟨F6, H6⟩ := his_push (w := w3) (wC := w4) (c := c) hhr oH3 hhg F4 hgr5 hown5 (_root_.Or.imp id (fun e => by have h1 : w4.heap.size = wc.heap.size + 1 := hsz4; omega) hat5) hlt5
      obtain ⟨w6, hw6⟩ : ∃ w6, w6 = w5.setCell ⟨hb, 1, none⟩ (.slice (some ⟨g, 0, none⟩) ((Lrun L rev os i o.k).length + 1) cap) := ⟨_, rfl⟩
      rw [← hw6] at F6 H6
      have I6 : Ix w6 (upd ρ2 g (120 + o.k)) X mb M2 (Lrun L rev os (i + 1)) (pl ++ ps) nb rb rh rc := by
        have h := Ix.change (Ix.fr I2 F3 (fun _ _ h => h)) hk5 hM2 F6 H6
        have e : (fun j => if j = o.k then Lrun L rev os i o.k ++ [c] else Lrun L rev os i j) = Lrun L rev os (i + 1) := by
          funext j
          simp only [Lrun, stepL]
          rw [← show o = os i from ho]
          split
          · rename_i e
            rw [e, show c = _ from hc]
          · rfl
        rw [e] at h
        exact h
      have y0 : w6.cell? ⟨w2.heap.size, 0, none⟩ = some (.int .i64 rev) := F6.cell (w := w3) hS3.2.2.1 (by show ¬ (ρ2 w2.heap.size = _ ∨ _); rw [show ρ2 w2.heap.size = 0 from q2]; omega)
      have y1 : w6.cell? ⟨w2.heap.size, 1, none⟩ = some (.int .i64 i) := F6.cell (w := w3) hS3.2.2.2.1 (by show ¬ (ρ2 w2.heap.size = _ ∨ _); rw [show ρ2 w2.heap.size = 0 from q2]; omega)
      have hpl : (pl ++ ps).length < nb * 1024 := by
        have := A1.len
        simp only [List.length_append]
        omega
      have ta := hid (fun m => tappend_any (upd ρ2 g (120 + o.k)) X mb M2 (Lrun L rev os (i + 1)) (pl ++ ps) ⟨rev, i, hb⟩ nb rb rh rc (w6.drewN m) hnb (I6.fr ((Fr.refl (fun _ => False) _ w6).drewN m) (fun _ _ h => h)))
      rw [← hw6]
      have K0 : ∀ w', Same w6 w' → w'.cell? ⟨w2.heap.size, 0, none⟩ = some (.int .i64 rev) ∧ w'.cell? ⟨w2.heap.size, 1, none⟩ = some (.int .i64 i) := fun w' h => ⟨(h.cell _).trans y0, (h.cell _).trans y1⟩
      have K1 : ∀ m w7, TaRes (w6.drewN m) (upd ρ2 g (120 + o.k)) X mb M2 (Lrun L rev os (i + 1)) (pl ++ ps ++ [⟨rev, i, hb⟩]) (if (pl ++ ps).length = nb * 1024 then nb + 1 else nb) rb rh rc (.returned (.tuple #[])) w7 →
          w7.cell? ⟨w2.heap.size, 0, none⟩ = some (.int .i64 rev) ∧ w7.cell? ⟨w2.heap.size, 1, none⟩ = some (.int .i64 i) := fun m w7 hq => by
        obtain ⟨ρ7, _, F7, _⟩ := hq
        have hr : upd ρ2 g (120 + o.k) w2.heap.size = 0 := (F6.role (w := w3) _ (World.block_lt_of_cell? w3 _ hS3.2.2.1)).trans q2
        exact ⟨F7.cell (w := w6.drewN m) y0 (by show ¬ (100 ≤ upd ρ2 g (120 + o.k) w2.heap.size ∧ upd ρ2 g (120 + o.k) w2.heap.size ≠ 106 ∧ upd ρ2 g (120 + o.k) w2.heap.size ≠ 107); rw [hr]; omega), F7.cell (w := w6.drewN m) y1 (by show ¬ (100 ≤ upd ρ2 g (120 + o.k) w2.heap.size ∧ upd ρ2 g (120 + o.k) w2.heap.size ≠ 106 ∧ upd ρ2 g (120 + o.k) w2.heap.size ≠ 107); rw [hr]; omega)⟩
      have fin : ∀ m w7, TaRes (w6.drewN m) (upd ρ2 g (120 + o.k)) X mb M2 (Lrun L rev os (i + 1)) (pl ++ ps ++ [⟨rev, i, hb⟩]) (if (pl ++ ps).length = nb * 1024 then nb + 1 else nb) rb rh rc (.returned (.tuple #[])) w7 →
          ∃ ρ7, Ap W0 ρ X mb M L pl nb rb rh rc rev os f (i + 1) w7 ρ7 M2 (ps ++ [⟨rev, i, hb⟩]) := fun m w7 hq => by
        obtain ⟨ρ7, _, F7, I7⟩ := hq
        rw [if_neg (by omega)] at I7
        have A' : Ap W0 ρ X mb M L pl nb rb rh rc rev os f i wr ρr Mr ps := A1
        refine ⟨ρ7, A'.fr.trans ((Fr.trans F13 (F6.mono (fun r h => by omega))).trans (Fr.trans ((Fr.refl _ _ w6).drewN m) F7)), by rw [← List.append_assoc]; exact I7, by have := A'.len; simp; omega, fun j p hp => ?_, fun j b hb' => hext j b (A'.ext j b hb'), fun k hk => ?_⟩
        · rcases Nat.lt_or_ge j ps.length with hj | hj
          · rw [List.getElem?_append_left hj] at hp
            obtain ⟨p1, p2, p3⟩ := A'.pls j p hp
            exact ⟨p1, p2, hext _ _ p3⟩
          · rw [List.getElem?_append_right hj] at hp
            have hj' : j = ps.length := by
              have := (List.getElem?_eq_some_iff.1 hp).1
              simp at this
              omega
            subst hj'
            simp at hp
            subst hp
            have e : f + ps.length = i := by have := A'.len; omega
            rw [e]
            exact ⟨rfl, rfl, by rw [← show o = os i from ho]; exact hM2⟩
        · simp only [Lrun, stepL]
          rw [← show o = os i from ho]
          by_cases e : k = o.k
          · subst e
            rw [if_pos rfl, show M2 o.k = some hb from hM2]
            simp
          · rw [if_neg e, show M2 k = Mr k from hoth k e]
            exact A'.iff k hk
      replace K0 := hid K0
      replace K1 := hid K1
      replace fin := hid fin
      replace F6 := hid F6
      replace H6 := hid H6
      replace I6 := hid I6
      replace hw6 := hid hw6
      clear l70 t0 t1 u0 d1 d2 l54
      go_wp2
      go_region_held3 (fun w' => w'.cell? ⟨w2.heap.size, 0, none⟩ = some (.int .i64 rev) ∧ w'.cell? ⟨w2.heap.size, 1, none⟩ = some (.int .i64 i))
        (first | exact K1 _ _ hq | exact K0 _ ⟨rfl, rfl, rfl, rfl⟩)
        (first | (go_at_call 6; refine Calls.mono (ta 1) ?_; intro e w7 hq; have he : e = .returned (.tuple #[]) := (by obtain ⟨_, h, _⟩ := hq; exact h); subst he; replace hq := hid hq))
      go_wp2
      obtain ⟨ρ7, A7⟩ := fin _ _ hq
      refine ⟨⟨i + 1, ρ7, M2, _, hlt, by simp, A7⟩, ?_⟩
      simp [intOf]
      omega
    · have k1 : ¬ ((i : Int) < (t : Int)) := by omega
      have hit' : i = t := by omega
      replace A1 := hid A1
      go_wp2
      refine bodyPost_end (results_none rfl _ _ _) rfl ?_
      have A' : Ap W0 ρ X mb M L pl nb rb rh rc rev os f i wr ρr Mr ps := A1
      rw [hit'] at A'
      exact ⟨ρr, Mr, ps, rfl, Fr.trans (Fr.mono F0 (fun _ h => h.elim)) A'.fr, A'.ix, A'.len, A'.pls, A'.ext, A'.iff⟩
end Go.Proofs.Ybulkdljs
