/-
  The walk over (*index).makeRoom.
-/
import Derived.Test.YbulkdljsMakeEnd
namespace Go.Proofs.Ybulkdljs
open Go.RowKit
attribute [local go_sem ↓] ld70_fold st70_fold
attribute [local go_sem] st70_whole ld70_whole whole_ok wstore_ok heapN heapP heapD setsN setsP setsD heapDN allocDN cellDN setsDN spl size_sets Value.oneCell'

theorem slice_le {w : World} {base e size n : Nat} {v : Value} {xs : List Value} (h : w.ownsRow base e size v n xs) : ∃ a c, v = .slice a n c ∧ n ≤ c ∧ c ≤ maxLen := by
  rcases h.2 with ⟨rfl, rfl⟩ | ⟨g, cap, cur, rfl, _, _, h1, h2, _⟩
  · exact ⟨none, 0, rfl, Nat.le_refl _, Nat.zero_le _⟩
  · exact ⟨_, cap, rfl, h1, h2⟩

theorem info38 : (Yba.prog.info? 38).map (fun i => (i.zero, i.size, i.bytes)) = some (some (.slice none 0 0), 1, 24) := by kernel_rfl
theorem nat_of {r : Int} (h : 0 ≤ r) : ∃ n : Nat, r = (n : Int) := ⟨r.toNat, by omega⟩
theorem grow_need {lk cv rn : Nat} {D : Int} (hD : (cv : Int) - (lk : Int) = D) (h : D < (rn : Int)) : cv < lk + rn := by omega
theorem grow_fits {lk rn : Nat} (hl : lk ≤ 1000000) (h : (rn : Int) ≤ 1024) : lk + rn ≤ 2097152 := by omega
theorem not_full {D r : Int} {lk cv : Nat} (hD : (cv : Int) - (lk : Int) = D) (hf : D < r) (h1 : r = 0) (h2 : lk ≤ cv) : False := by omega

set_option linter.unusedSimpArgs false in
set_option maxRecDepth 100000 in
set_option maxHeartbeats 4000000 in
theorem makeRoom_core (ρ : Nat → Nat) (X mb : Nat) (M : Nat → Option Nat) (L : Nat → List Chg) (pl : List Plc) (nb1 : Nat) (V : Nat → Value) (ov tv rh rc : Value) (os : Nat → OpS) (ob vb n f m ocap : Nat) (w : World)
    (wa : Calls Yba.prog 15 #[.pointer (some ⟨X, 2, none⟩), .int .i64 m] w (WaRes w ρ X mb M L pl nb1 V ov tv (.slice none 0 0) rh rc)) (hR : R0 w ρ rh rc) (hO : OpsAt w ρ ob vb n os) (hfm : f + m ≤ n) (hm : m ≤ 1024) (hL : ∀ k, (L k).length ≤ 1000000) :
    Calls Yba.prog 11 #[.pointer (some ⟨X, 0, none⟩), .slice (some ⟨ob, f * 13, none⟩) m ocap, .pointer (some ⟨X, 5, none⟩)] w (MkRes w ρ X mb M L pl nb1) := by
  have hmI : (m : Int) ≤ 1024 := by omega
  clear hm
  obtain ⟨i45, hi45, hz0, hz1, hz2⟩ := info_parts info45
  replace hi45 := hid hi45
  replace hz0 := hid hz0
  replace wa := hid wa
  replace hR := hid hR
  replace hO := hid hO
  replace hL := hid hL
  go_enter Yba.func11, Yba.ntmps11
  go_wp2_with (first | (go_at_call 15; refine Calls.mono wa ?_; intro e w1 hq; obtain ⟨ao, vn, vc, ρ1, te, rfl, f1, J1, hte⟩ := hq
                        have d5 : w1.cell? ⟨X, 5, none⟩ = some (.slice none 0 0) := obj_cell J1.ho 5
                        have e5 : w1.frozen? ⟨X, 5, none⟩ = false := obj_frozen J1.ho 5
                        replace f1 := hid f1
                        replace J1 := hid J1
                        replace hte := hid hte))
  obtain ⟨f2, J2⟩ := Jx.setX J1 5 (.slice ao vn vc) tv (.slice ao vn vc) rh rc rfl
  obtain ⟨W, hW⟩ : ∃ W, W = w1.setCell ⟨X, 5, none⟩ (.slice ao vn vc) := ⟨_, rfl⟩
  rw [← hW] at f2 J2 ⊢
  have F2 : Fr (fun r => r = 100 ∨ r = 102) ρ ρ1 w W := (Fr.mono f1 (fun r e => Or.inr e)).trans (f2.mono (fun r e => Or.inl e))
  have RW : R0 W ρ1 rh rc := R0.fr hR F2 (by omega) (by omega)
  have A0 : Mk1 w ρ X mb M L pl nb1 te V ov tv (.slice ao vn vc) rc 0 W ρ1 (fun _ => 0) [] rh :=
    ⟨F2.mono (fun r e => by omega), J2, RW.h, RW.hr, RW.c, RW.cr, fun k => ⟨Int.le_refl _, by simp⟩, fun k hk => absurd rfl hk, fun k hk => (by simp at hk), Nat.le_refl _⟩
  have hVS : ∀ k hb, k < 5 → M k = some hb → ∃ a c, V k = .slice a (L k).length c ∧ (L k).length ≤ c ∧ c ≤ maxLen := fun k hb hk hM => slice_le (J2.hw k hb hk hM)
  replace hVS := hid hVS
  clear d5 e5
  replace A0 := hid A0
  replace hW := hid hW
  replace f2 := hid f2
  replace J2 := hid J2
  replace F2 := hid F2
  replace RW := hid RW
  go_wp2
  go_loopw [23] (fun v wr => ∃ (i : Nat) (ρr : Nat → Nat) (Rm : Nat → Int) (ks : List Nat) (rh' : Value), i ≤ m ∧ v = .int .i64 i ∧ Hid (Mk1 w ρ X mb M L pl nb1 te V ov tv (.slice ao vn vc) rc i wr ρr Rm ks rh')) (fun v _ => m - (intOf v).toNat)
  case atStart => exact ⟨0, _, _, _, _, Nat.zero_le _, rfl, A0⟩
  case round =>
    obtain ⟨i, ρr, Rm, ks, rh', him, rfl, A⟩ := hrel
    clear A0
    have A1 : Mk1 w ρ X mb M L pl nb1 te V ov tv (.slice ao vn vc) rc i wr ρr Rm ks rh' := A
    by_cases hlt : i < m
    · have k1 : (i : Int) < (m : Int) := by omega
      have k3 : (0 : Int) ≤ (i : Int) := by omega
      have OpR : OpsAt wr ρr ob vb n os := OpsAt.fr hO A1.fr
      obtain ⟨hk5, kv, hrg, hka, hkr⟩ := OpR.op (f + i) (by omega)
      rw [Nat.add_mul] at hrg
      obtain ⟨o, ho⟩ : ∃ o, o = os (f + i) := ⟨_, rfl⟩
      rw [← ho] at hk5 hrg hka
      obtain ⟨kb, kc, hkve, _⟩ := id hka
      obtain ⟨kl, hkl⟩ : ∃ kl, (keyS o.k).data.toList.length = kl := ⟨_, rfl⟩
      rw [hkl] at hkve
      subst hkve
      replace hkl := hid hkl
      obtain ⟨kd, hkd⟩ : ∃ kd : Int, kd = (if o.del then 2 else 1) := ⟨_, rfl⟩
      rw [← hkd] at hrg
      have l70 : (ldT 70 (.pointer (some ⟨ob, f * 13 + i * 13, none⟩))).run Yba.prog wr = .ok (.agg (opA kd o.lease (.slice (some ⟨kb, 0, none⟩) kl kc))) wr := ld70_mid hrg rfl
      obtain ⟨w3, hw3⟩ : ∃ w3, w3 = wr.alloc (.cells (opA kd o.lease (.slice (some ⟨kb, 0, none⟩) kl kc)) 70) := ⟨_, rfl⟩
      have F3 : Fr (fun _ => False) ρr ρr wr w3 := by rw [hw3]; exact (Fr.refl _ ρr wr).alloc _
      have A3 := A1.keep F3
      have hcv : ∀ q, (convert 65 9 (.slice (some ⟨kb, 0, none⟩) kl kc)).run Yba.prog (w3.drewN q) = .ok (.string (keyS o.k)) (w3.drewN q) := fun q => (hka.fr (F3.drewN q) (fun _ _ e => e)).conv
      have hlk : ∀ q, (Instr.lookup 24 (.map (some mb)) (.string (keyS o.k)) false).run Yba.prog (w3.drewN q) = .ok (ptrOf (M o.k)) (w3.drewN q) := fun q => (A3.jx.map.same (Same.drewN w3 q)).look hk5
      have c0 : w3.cell? ⟨X, 0, none⟩ = some (.map (some mb)) := obj_cell A3.jx.ho 0
      have cK : w3.cell? ⟨wr.heap.size, 2, none⟩ = some (.slice (some ⟨kb, 0, none⟩) kl kc) := by rw [hw3]; exact World.cell?_alloc_at _ _ _ _ rfl
      replace A1 := hid A1
      replace A3 := hid A3
      replace OpR := hid OpR
      replace hrg := hid hrg
      replace hka := hid hka
      replace ho := hid ho
      replace hkd := hid hkd
      replace hw3 := hid hw3
      replace F3 := hid F3
      go_wp2
      rw [← hw3]
      cases hMk : M o.k with
      | none =>
        rw [hMk] at hlk
        simp only [ptrOf] at hlk
        go_quiet (fail)
        go_wp2
        refine ⟨⟨i + 1, ρr, Rm, ks, rh', hlt, by simp, Mk1.next (Mk1.keep A3 ((Fr.refl _ ρr w3).drewN _))⟩, ?_⟩
        simp [intOf]
        omega
      | some hb =>
        rw [hMk] at hlk
        simp only [ptrOf] at hlk
        have A3' : Mk1 w ρ X mb M L pl nb1 te V ov tv (.slice ao vn vc) rc i w3 ρr Rm ks rh' := A3
        obtain ⟨r, hr⟩ : ∃ r, r = Rm o.k := ⟨_, rfl⟩
        have ohb : objAt w3 hb = some (.cells #[.string (keyS o.k), V o.k, .int .i64 r] 47 (0, 0)) := by rw [hr]; exact A3'.jx.hob o.k hb hk5 hMk
        have b2 : w3.cell? ⟨hb, 2, none⟩ = some (.int .i64 r) := obj_cell ohb 2
        have b3 : w3.frozen? ⟨hb, 2, none⟩ = false := obj_frozen ohb 2
        have hrb := A3'.rm o.k
        rw [← hr] at hrb
        have hr1 : (0 : Int) ≤ r := hrb.1
        have hr2 : r + 1 ≤ 1048576 := by omega
        have hr3 : r + 1 ≤ ((i + 1 : Nat) : Int) := by omega
        replace hr := hid hr
        by_cases h0 : r = 0
        · obtain ⟨nk, hnk⟩ : ∃ nk, ks.length = nk := ⟨_, rfl⟩
          obtain ⟨ah, chh, hrh⟩ := form_any A3'.hrow
          subst hrh
          rw [hnk] at A3'
          have hlen := A3'.len
          rw [hnk] at hlen
          have c6 : w3.cell? ⟨X, 6, none⟩ = some (.slice ah nk chh) := obj_cell A3'.jx.ho 6
          have f6 : w3.frozen? ⟨X, 6, none⟩ = false := obj_frozen A3'.jx.ho 6
          have q1 : nk + 1 ≤ maxLen := by unfold maxLen; omega
          have q2 : (nk + 1) * 8 ≤ 140737488355328 := by omega
          have hown3 : ∀ q o', Hid (((w3.alloc o').drewN q).ownsRow 0 45 1 (.slice ah nk chh) nk (ks.map fun k => ptrOf (M k))) := fun q o' => by
            have := (A3'.hrow).alloc o'
            rw [hnk] at this
            exact this
          have hXl : X < w3.heap.size := obj_lt A3'.jx.ho
          have hbl : hb < w3.heap.size := obj_lt ohb
          have hXr : ρr X = 100 := A3'.jx.rx
          have hbr : ρr hb = 110 + o.k := A3'.jx.hr o.k hb hk5 hMk
          have hro := A3'.hrole
          subst h0
          replace hnk := hid hnk
          replace A3' := hid A3'
          replace hMk := hid hMk
          replace ohb := hid ohb
          replace hrb := hid hrb
          replace hr3 := hid hr3
          replace hro := hid hro
          have b2' := hid b2
          have b3' := hid b3
          have c6' := hid c6
          have f6' := hid f6
          have hl0 := hlk 0
          have hl1 := hlk 1
          have hv0 := hcv 0
          have hv1 := hcv 1
          rw [World.drewN_zero] at hl0 hv0
          rw [← World.drew_is_drewN] at hl1 hv1
          clear b2 b3 c6 f6 hr1 hr2
          go_quiet (fail)
          have b2 : w3.cell? ⟨hb, 2, none⟩ = some (.int .i64 0) := b2'
          have b3 : w3.frozen? ⟨hb, 2, none⟩ = false := b3'
          have c6 : w3.cell? ⟨X, 6, none⟩ = some (.slice ah nk chh) := c6'
          have f6 : w3.frozen? ⟨X, 6, none⟩ = false := f6'
          clear hl0 hl1 hv0 hv1 hcv hlk
          go_wp2_with (at_builtin; refine wpList_append_lies _ (by rfl) (.tmp 46) (.tmp 48) 31 (by rfl) 0 45 i45 (.pointer none) 1 8 Yba.underlying31 hi45 hz0 hz1 hz2 rfl (by decide) (.slice ah nk chh) nk (ks.map fun k => ptrOf (M k)) (by rfl) (hown3 _ _) ⟨w3.heap.size, 0, none⟩ 1 1 [ptrB hb] (by rfl) (by rfl) (World.news_of_block (heapN _ _ _ (by simp))) (by intro u hu; simp at hu; subst hu; rfl) (by decide) q1 q2 (Nat.zero_le _) (w3.heap.size + 1) (by simp) ?_; intro g cap1 w5 hown5 hgr5 hat5 hlt5
                       obtain ⟨wC, hwC⟩ : ∃ wC, wC = w3.alloc (.cells #[ptrB hb] 45) := ⟨_, rfl⟩
                       have hgr6 : wC.grownBy w5 (Value.slice ah nk chh).ownBlock := by rw [hwC]; exact hgr5.same ⟨rfl, rfl, rfl, rfl⟩
                       have FC : Fr (fun _ => False) ρr ρr w3 wC := by rw [hwC]; exact (Fr.refl _ ρr w3).alloc _
                       have F5 : Fr (fun r => r = 106) ρr ρr w3 w5 := (FC.mono (fun _ e => e.elim)).grown hgr6 (fun g e => hro g e)
                       have oX5 := F5.obj A3'.jx.ho (by rw [hXr]; omega)
                       have oh5 := F5.obj ohb (by rw [hbr]; omega)
                       have y1 : w5.cell? ⟨X, 6, none⟩ = some (.slice ah nk chh) := obj_cell oX5 6
                       have y2 : w5.frozen? ⟨X, 6, none⟩ = false := obj_frozen oX5 6
                       have y3 : w5.cell? ⟨hb, 2, none⟩ = some (.int .i64 0) := obj_cell oh5 2
                       have y4 : w5.frozen? ⟨hb, 2, none⟩ = false := obj_frozen oh5 2
                       have hXb : X ≠ hb := fun e => by rw [e] at hXr; omega
                       replace hgr5 := hid hgr5
                       replace hgr6 := hid hgr6
                       replace hown5 := hid hown5
                       replace hat5 := hid hat5
                       replace FC := hid FC
                       replace F5 := hid F5
                       replace oX5 := hid oX5
                       replace oh5 := hid oh5
                       replace hwC := hid hwC)
          have hkl2 : ks.length = nk := hnk
          have A4 : Mk1 w ρ X mb M L pl nb1 te V ov tv (.slice ao vn vc) rc (i + 1) w3 ρr Rm ks (.slice ah nk chh) := Mk1.next A3'
          have hsC : wC.heap.size = w3.heap.size + 1 := by rw [show wC = _ from hwC]; simp
          have A5 := A4.add (g := g) (cap := cap1) hk5 hMk (by rw [hkl2]; omega) FC hgr6 (by rw [hkl2]; exact hown5) (_root_.Or.imp id (fun e => by omega) hat5) hlt5
          have A6 := A5.inc hk5 hMk (by simp) (by rw [← show (0 : Int) = Rm o.k from hr]; omega)
          rw [← show (0 : Int) = Rm o.k from hr, hkl2] at A6
          refine ⟨⟨i + 1, _, _, _, _, hlt, by simp, A6⟩, ?_⟩
          simp [intOf]
          omega
        · have hmem : o.k ∈ ks := A3'.mem o.k (by rw [← show r = Rm o.k from hr]; exact h0)
          have B := Mk1.inc (Mk1.next A3') hk5 hMk hmem (by rw [← show r = Rm o.k from hr]; exact hr3)
          rw [← show r = Rm o.k from hr] at B
          replace B := hid B
          replace A3' := hid A3'
          replace hMk := hid hMk
          replace ohb := hid ohb
          replace hrb := hid hrb
          replace hr3 := hid hr3
          have b2' := hid b2
          have b3' := hid b3
          have hl0 := hlk 0
          have hl1 := hlk 1
          have hv0 := hcv 0
          have hv1 := hcv 1
          rw [World.drewN_zero] at hl0 hv0
          rw [← World.drew_is_drewN] at hl1 hv1
          have h0' := hid h0
          have hr2' := hid hr2
          clear b2 b3 h0 hr2
          go_quiet (fail)
          have b2 : w3.cell? ⟨hb, 2, none⟩ = some (.int .i64 r) := b2'
          have b3 : w3.frozen? ⟨hb, 2, none⟩ = false := b3'
          have h0 : ¬ (r = 0) := h0'
          have hr2 : r + 1 ≤ 1048576 := hr2'
          clear hl0 hl1 hv0 hv1 hcv hlk hz1 hz2
          go_wp2
          refine ⟨⟨i + 1, ρr, _, ks, rh', hlt, by simp, Mk1.keep B ((Fr.refl _ ρr _).drewN _)⟩, ?_⟩
          simp [intOf]
          omega
    · have k1 : ¬ ((i : Int) < (m : Int)) := by omega
      obtain ⟨nk, hnk⟩ : ∃ nk, ks.length = nk := ⟨_, rfl⟩
      obtain ⟨ah, chh, hrh⟩ := form_any A1.hrow
      subst hrh
      obtain ⟨wb, hwb⟩ : ∃ wb, wb = wr := ⟨wr, rfl⟩
      subst hwb
      have hyl : (ks.map fun k => ptrOf (M k)).length = ks.length := by simp
      have B0 : Mk2 w ρ X mb M L pl nb1 te V ov tv (.slice ao vn vc) ah chh ks 0 wb ρr Rm V [] [] (ks.map fun k => ptrOf (M k)) rc :=
        ⟨A1.fr, A1.jx, A1.hrow, A1.hrole, fun j hj => by simp at hj, fun j _ => rfl, Nat.le_refl _, A1.crow, A1.crole, rfl, fun j k h => by simp at h, fun _ _ _ _ _ => rfl,
          fun k => ⟨(A1.rm k).1, by have := (A1.rm k).2; omega⟩, fun k hk => by
            obtain ⟨j, hj⟩ := List.mem_iff_getElem?.1 (A1.mem k hk)
            exact ⟨j, Nat.zero_le _, hj⟩, fun k hk => by simp at hk, A1.ok⟩
      have hnkm : nk ≤ m := by have := A1.len; omega
      have c6 : wb.cell? ⟨X, 6, none⟩ = some (.slice ah nk chh) := by
        have := obj_cell A1.jx.ho 6
        rw [hnk] at this
        exact this
      replace A1 := hid A1
      replace B0 := hid B0
      replace hnk := hid hnk
      replace hyl := hid hyl
      go_wp2
      go_loopw [9, 70] (fun v9 v70 wr => ∃ (i : Nat) (ρr : Nat → Nat) (Rm : Nat → Int) (E : Nat → Value) (ps : List Nat) (vs ys : List Value) (rc' : Value), i ≤ nk ∧ v9 = .slice ah ps.length chh ∧ v70 = .int .i64 i ∧ Hid (Mk2 w ρ X mb M L pl nb1 te V ov tv (.slice ao vn vc) ah chh ks i wr ρr Rm E ps vs ys rc')) (fun _ v70 _ => nk - (intOf v70).toNat)
      case atStart => exact ⟨0, _, _, _, _, _, _, _, Nat.zero_le _, rfl, rfl, B0⟩
      case round =>
        clear B0 A1 A c6 k1 him
        obtain ⟨j, ρr, Rm, E, ps, vs, ys, rc', hj, rfl, rfl, A⟩ := hrel
        have A1 : Mk2 w ρ X mb M L pl nb1 te V ov tv (.slice ao vn vc) ah chh ks j wr ρr Rm E ps vs ys rc' := A
        by_cases hlt : j < nk
        · have k1 : (j : Int) < (nk : Int) := by omega
          have k3 : (0 : Int) ≤ (j : Int) := by omega
          have hkl : ks.length = nk := hnk
          have hik : ks[j]? = some (ks[j]'(by omega)) := List.getElem?_eq_getElem (by omega)
          obtain ⟨k, hk⟩ : ∃ k, k = ks[j]'(by omega) := ⟨_, rfl⟩
          rw [← hk] at hik
          obtain ⟨hk5, hb, hM⟩ := A1.ok k (List.mem_of_getElem? hik)
          obtain ⟨g6, c6', e6, _, _⟩ := A1.hrow.form (by omega)
          cases e6
          have y1 : wr.cell? ⟨g6, j, none⟩ = some (.pointer (some ⟨hb, 0, none⟩)) := row_cell A1.hrow (by rw [A1.ysK j (Nat.le_refl _), List.getElem?_map, hik, Option.map_some, hM]; rfl)
          obtain ⟨r, hr⟩ : ∃ r, r = Rm k := ⟨_, rfl⟩
          have ohb : objAt wr hb = some (.cells #[.string (keyS k), V k, .int .i64 r] 47 (0, 0)) := by rw [hr]; exact A1.jx.hob k hb hk5 hM
          obtain ⟨av, cv, hV, hle, hcm⟩ := hVS k hb hk5 hM
          obtain ⟨lk, hlk⟩ : ∃ lk, (L k).length = lk := ⟨_, rfl⟩
          rw [hlk] at hV hle
          have b1 : wr.cell? ⟨hb, 1, none⟩ = some (.slice av lk cv) := by rw [← hV]; exact obj_cell ohb 1
          have b2 : wr.cell? ⟨hb, 2, none⟩ = some (.int .i64 r) := obj_cell ohb 2
          have b3 : wr.frozen? ⟨hb, 2, none⟩ = false := obj_frozen ohb 2
          obtain ⟨D, hD⟩ : ∃ D : Int, (cv : Int) - (lk : Int) = D := ⟨_, rfl⟩
          have hDw : wrap64 D = D := IntWalk.wrap64_in _ (by unfold maxLen at hcm; omega)
          replace A1 := hid A1
          replace hkl := hid hkl
          replace hik := hid hik
          replace hk := hid hk
          replace hM := hid hM
          replace hr := hid hr
          replace ohb := hid ohb
          replace hV := hid hV
          replace hle := hid hle
          replace hcm := hid hcm
          replace hlk := hid hlk
          by_cases hfull : D < r
          · have A1' : Mk2 w ρ X mb M L pl nb1 te V ov tv (.slice ao vn vc) (some ⟨g6, 0, none⟩) chh ks j wr ρr Rm E ps vs ys rc' := A1
            obtain ⟨pn, hpn⟩ : ∃ pn, ps.length = pn := ⟨_, rfl⟩
            have hpj : pn ≤ j := by rw [← hpn]; exact A1'.plen
            have hch : ∃ cur, objAt wr g6 = some (.cells cur 45 (0, 0)) ∧ cur.size = chh ∧ nk ≤ chh := by
              rcases A1'.hrow.2 with ⟨q, _⟩ | ⟨g, c, cur, q, _, hg, hnc, hcm', hcs, _⟩
              · cases q
              · cases q
                exact ⟨cur, hg, by omega, by rw [← show ks.length = nk from hkl]; exact hnc⟩
            obtain ⟨cur, og6, hcs, hnc⟩ := hch
            have g6l : g6 < wr.heap.size := obj_lt og6
            have happ : ∀ ty q, (Builtin.append_ #[31, 31] ty #[.slice (some ⟨g6, 0, none⟩) pn chh, .slice (some ⟨wr.heap.size, 0, none⟩) 1 1]).run Yba.prog ((wr.alloc (.cells #[.pointer (some ⟨hb, 0, none⟩)] 45)).drewN q) =
                .ok (.slice (some ⟨g6, 0, none⟩) (pn + 1) chh) (((wr.alloc (.cells #[.pointer (some ⟨hb, 0, none⟩)] 45)).setCells g6 pn [.pointer (some ⟨hb, 0, none⟩)]).drewN q) := fun ty q => by
              have og6' : objAt ((wr.alloc (.cells #[.pointer (some ⟨hb, 0, none⟩)] 45)).drewN q) g6 = some (.cells cur 45 (0, 0)) := (heapDN _ _ _).trans ((heapP _ _ _ g6l).trans og6)
              have h := run_append_room_cells (P := Yba.prog) ((wr.alloc (.cells #[.pointer (some ⟨hb, 0, none⟩)] 45)).drewN q) 31 ty 45 i45 Yba.underlying31 hi45 g6 0 pn chh ⟨wr.heap.size, 0, none⟩ 1 1 [.pointer (some ⟨hb, 0, none⟩)] (by rw [hz1]; rfl) (World.news_of_block (heapN _ _ _ rfl)) (by intro u hu; simp at hu; subst hu; rfl) (by omega)
                (fun t ht => by rw [obj_cell og6']; simp at ht ⊢; rw [hz1]; omega) (fun t ht => obj_frozen og6' _)
              rw [hz1, Nat.zero_add, Nat.mul_one, setsDN] at h
              exact h
            rw [hpn]
            replace A1' := hid A1'
            replace og6 := hid og6
            replace hpn := hid hpn
            replace hnc := hid hnc
            replace hcs := hid hcs
            go_wp2
            go_quiet (fail)
            go_wp2_with (at_builtin; refine Lib.wpList_append_run _ rfl _ _ _ _ rfl _ _ rfl rfl _ _ (happ _ _) ?_)
            obtain ⟨a7, c7, hrc⟩ := form_any (Mk2.crow A1)
            obtain ⟨vl, hvl⟩ : ∃ vl, vs.length = vl := ⟨_, rfl⟩
            rw [hvl] at hrc
            obtain ⟨w1, hw1⟩ : ∃ w1, w1 = (wr.setCells g6 pn [.pointer (some ⟨hb, 0, none⟩)]).alloc (.cells #[.pointer (some ⟨hb, 0, none⟩)] 45) := ⟨_, rfl⟩
            have r6 : ρr g6 = 106 := Mk2.hrole A1 g6 rfl
            have f1 : Fr (fun r => r = 106) ρr ρr wr w1 := by rw [hw1]; exact (grown_fr (grown_sets _ _ _ _) _ (fun g e => by cases e; exact r6)).alloc _
            have oX1 := f1.obj (Mk2.jx A1).ho (by rw [(Mk2.jx A1).rx]; omega)
            have oh1 : objAt w1 hb = some (.cells #[.string (keyS k), V k, .int .i64 r] 47 (0, 0)) := f1.obj ohb (by rw [(Mk2.jx A1).hr k hb hk5 hM]; omega)
            have hS1 : (w1.drewN (nq + 1)).cell? ⟨X, 7, none⟩ = some (.slice a7 vl c7) ∧ (w1.drewN (nq + 1)).cell? ⟨hb, 1, none⟩ = some (.slice av lk cv) ∧ (w1.drewN (nq + 1)).cell? ⟨hb, 2, none⟩ = some (.int .i64 r) := ⟨by rw [← hrc]; exact obj_cell oX1 7, by rw [← show V k = _ from hV]; exact obj_cell oh1 1, obj_cell oh1 2⟩
            have hEk : E k = V k := Mk2.ev A1 k hb hk5 hM (fun hm => not_full hD hfull ((show r = Rm k from hr).trans (Mk2.psz A1 k hm)) hle)
            have hrmk := Mk2.rm A1 k
            rw [← show r = Rm k from hr] at hrmk
            obtain ⟨rn, hrn⟩ := nat_of hrmk.1
            have hw1r : w1.ownsRow 0 56 24 (.slice av lk cv) lk (chgs (L k)) := by
              have h := f1.owns ((Mk2.jx A1).hw k hb hk5 hM) (fun g hg => by rw [(Mk2.jx A1).hg k hb hk5 hM g hg]; exact fun e => by omega)
              rw [hEk, show V k = _ from hV, show (L k).length = lk from hlk] at h
              exact h
            have hLk : lk ≤ 1000000 := by rw [← show (L k).length = lk from hlk]; exact hL k
            have ga := hid (fun q => grow_any av lk cv rn (chgs (L k)) (w1.drewN q) hw1r (grow_need hD (by rw [← hrn]; exact hfull)) (grow_fits hLk (by rw [← hrn]; exact hrmk.2)))
            have hkp : k ∉ ps := fun hm => not_full hD hfull ((show r = Rm k from hr).trans (Mk2.psz A1 k hm)) hle
            obtain ⟨i38, hi38, hy0, hy1, hy2⟩ := info_parts info38
            have hvn : vl ≤ 1024 := by
              have h1 := Mk2.vlen A1
              have h2 : ps.length = pn := hpn
              omega
            have hrcr : ∀ g, (Value.slice a7 vl c7).ownBlock = some g → g < wr.heap.size ∧ ρr g = 107 := fun g e => by
              rw [← hrc] at e
              exact ⟨((Mk2.crow A1).lt g e).2, Mk2.crole A1 g e⟩
            have hsz1 : wr.heap.size ≤ w1.heap.size := f1.size
            have hXl : X < w1.heap.size := obj_lt oX1
            have hbl : hb < w1.heap.size := obj_lt oh1
            obtain ⟨ρg, hρg⟩ : ∃ ρg, ρg = upd ρr w1.heap.size (120 + k) := ⟨_, rfl⟩
            have rX : ρg X = 100 := by rw [hρg, upd_other _ (Nat.ne_of_lt hXl)]; exact (Mk2.jx A1).rx
            have rb : ρg hb = 110 + k := by rw [hρg, upd_other _ (Nat.ne_of_lt hbl)]; exact (Mk2.jx A1).hr k hb hk5 hM
            have rcg : ∀ g, (Value.slice a7 vl c7).ownBlock = some g → ρg g = 107 := fun g e => by
              rw [hρg, upd_other _ (Nat.ne_of_lt (Nat.lt_of_lt_of_le (hrcr g e).1 hsz1))]; exact (hrcr g e).2
            have hXb : X ≠ hb := fun e => by rw [e, rb] at rX; omega
            have SF : ∀ w', Fr (fun r => r = 107) ρg ρg w1 w' → w'.cell? ⟨X, 7, none⟩ = some (.slice a7 vl c7) ∧ w'.cell? ⟨hb, 1, none⟩ = some (.slice av lk cv) ∧ w'.cell? ⟨hb, 2, none⟩ = some (.int .i64 r) := fun w' h =>
              ⟨h.cell (w := w1) hS1.1 (by show ¬ (ρg X = 107); rw [rX]; omega), h.cell (w := w1) hS1.2.1 (by show ¬ (ρg hb = 107); rw [rb]; omega), h.cell (w := w1) hS1.2.2 (by show ¬ (ρg hb = 107); rw [rb]; omega)⟩
            have hcr1 : w1.ownsRow 0 38 1 (.slice a7 vl c7) vl vs := by
              have h := f1.owns (Mk2.crow A1) (fun g e => by rw [Mk2.crole A1 g e]; omega)
              rw [hrc, hvl] at h
              exact h
            have hv1 : vl + 1 ≤ maxLen := by unfold maxLen; omega
            have hv2 : (vl + 1) * 24 ≤ 140737488355328 := by omega
            have fin : ∀ (w2 w3 w5 : World) (gc g7 c7' : Nat), Below w1.heap.size w1 w2 → w1.heap.size < w2.heap.size → w2.ownsRow 0 56 24 (.slice (some ⟨w1.heap.size, 0, none⟩) lk gc) lk (chgs (L k)) → Fr (fun _ => False) ρg ρg w2 w3 → w3.grownBy w5 (Value.slice a7 vl c7).ownBlock →
                w5.ownsRow 0 38 1 (.slice (some ⟨g7, 0, none⟩) (vl + 1) c7') (vl + 1) (vs ++ [.slice (some ⟨w1.heap.size, 0, none⟩) lk gc]) → ((Value.slice a7 vl c7).ownBlock = some g7 ∨ w3.heap.size ≤ g7) → g7 < w5.heap.size →
                ∃ (ρr' : Nat → Nat) (Rm' : Nat → Int) (E' : Nat → Value) (vs' ys' : List Value), Mk2 w ρ X mb M L pl nb1 te V ov tv (.slice ao vn vc) (some ⟨g6, 0, none⟩) chh ks (j + 1) ((w5.setCell ⟨X, 7, none⟩ (.slice (some ⟨g7, 0, none⟩) (vl + 1) c7')).setCell ⟨hb, 2, none⟩ (.int .i64 0)) ρr' Rm' E' (ps ++ [k]) vs' ys' (.slice (some ⟨g7, 0, none⟩) (vl + 1) c7') := fun w2 w3 w5 gc g7 c7' hB hlt2 hG f3 hg5 hown hat hl5 => by
              have f0 : Fr (fun _ => False) ρr ρr wr (wr.alloc (.cells #[.pointer (some ⟨hb, 0, none⟩)] 45)) := (Fr.refl _ ρr wr).alloc _
              have hw1' : w1 = (wr.alloc (.cells #[.pointer (some ⟨hb, 0, none⟩)] 45)).setCells g6 ps.length [ptrB hb] := by
                rw [hw1, show ps.length = pn from hpn, setsP _ _ _ _ _ g6l]; rfl
              rw [hρg] at f3
              rw [← show (L k).length = lk from hlk] at hG hown
              rw [← hvl] at hown hg5 hat ⊢
              rw [← hvl] at hrc
              rw [← hrc] at hg5 hat
              obtain ⟨ys', B⟩ := Mk2.pend A1 hik hM hkp rfl f0 hw1' hB hlt2 hG f3 hg5 hown hat hl5
              exact ⟨_, _, _, _, ys', B⟩
            replace hi38 := hid hi38
            replace hy0 := hid hy0
            replace SF := hid SF
            replace fin := hid fin
            replace hcr1 := hid hcr1
            replace hrcr := hid hrcr
            replace rcg := hid rcg
            replace rX := hid rX
            replace rb := hid rb
            replace hρg := hid hρg
            replace hw1 := hid hw1
            replace f1 := hid f1
            replace oX1 := hid oX1
            replace oh1 := hid oh1
            replace hvl := hid hvl
            replace hrc := hid hrc
            replace hrn := hid hrn
            replace hrmk := hid hrmk
            replace hEk := hid hEk
            replace hw1r := hid hw1r
            replace hkp := hid hkp
            rw [← hw1]
            refine wp_region_noPanic (wp_region_N (fun w' => w'.cell? ⟨X, 7, none⟩ = some (.slice a7 vl c7) ∧ w'.cell? ⟨hb, 1, none⟩ = some (.slice av lk cv) ∧ w'.cell? ⟨hb, 2, none⟩ = some (.int .i64 r)) 18 (by kernel_rfl) ?_)
            replace hS1 := hid hS1
            refine wpAnyN_take (i := 0) (v := .pointer (some ⟨X, 5, none⟩)) (by kernel_rfl) rfl (by kernel_rfl) (by kernel_rfl) (by kernel_rfl) (fun _ _ _ h => h) (by rfl) (fun w' hS => ?_) hS1 ?_
            · obtain ⟨s1, s2, s3⟩ := hS
              go_simp
            simp only [Act.put, List.setIfInBounds_toArray, List.set_cons_zero, List.set_cons_succ]
            refine wpAnyN_take (i := 1) (v := .pointer (some ⟨X, 5, none⟩)) (by kernel_rfl) rfl (by kernel_rfl) (by kernel_rfl) (by kernel_rfl) (fun _ _ _ h => h) (by rfl) (fun w' hS => ?_) hS1 ?_
            · obtain ⟨s1, s2, s3⟩ := hS
              go_simp
            simp only [Act.put, List.setIfInBounds_toArray, List.set_cons_zero, List.set_cons_succ]
            refine wpAnyN_take (i := 2) (v := .pointer (some ⟨X, 5, none⟩)) (by kernel_rfl) rfl (by kernel_rfl) (by kernel_rfl) (by kernel_rfl) (fun _ _ _ h => h) (by rfl) (fun w' hS => ?_) hS1 ?_
            · obtain ⟨s1, s2, s3⟩ := hS
              go_simp
            simp only [Act.put, List.setIfInBounds_toArray, List.set_cons_zero, List.set_cons_succ]
            refine wpAnyN_take (i := 3) (v := .pointer (some ⟨X, 7, none⟩)) (by kernel_rfl) rfl (by kernel_rfl) (by kernel_rfl) (by kernel_rfl) (fun _ _ _ h => h) (by rfl) (fun w' hS => ?_) hS1 ?_
            · obtain ⟨s1, s2, s3⟩ := hS
              go_simp
            simp only [Act.put, List.setIfInBounds_toArray, List.set_cons_zero, List.set_cons_succ]
            refine wpAnyN_take (i := 4) (v := .slice a7 vl c7) (by kernel_rfl) rfl (by kernel_rfl) (by kernel_rfl) (by kernel_rfl) (fun _ _ _ h => h) (by rfl) (fun w' hS => ?_) hS1 ?_
            · obtain ⟨s1, s2, s3⟩ := hS
              go_simp
            simp only [Act.put, List.setIfInBounds_toArray, List.set_cons_zero, List.set_cons_succ]
            refine wpAnyN_take (i := 5) (v := .pointer (some ⟨hb, 0, none⟩)) (by kernel_rfl) rfl (by kernel_rfl) (by kernel_rfl) (by kernel_rfl) (fun _ _ _ h => h) (by rfl) (fun w' hS => ?_) hS1 ?_
            · obtain ⟨s1, s2, s3⟩ := hS
              go_simp
            simp only [Act.put, List.setIfInBounds_toArray, List.set_cons_zero, List.set_cons_succ]
            refine wpAnyN_take (i := 6) (v := .pointer (some ⟨hb, 0, none⟩)) (by kernel_rfl) rfl (by kernel_rfl) (by kernel_rfl) (by kernel_rfl) (fun _ _ _ h => h) (by rfl) (fun w' hS => ?_) hS1 ?_
            · obtain ⟨s1, s2, s3⟩ := hS
              go_simp
            simp only [Act.put, List.setIfInBounds_toArray, List.set_cons_zero, List.set_cons_succ]
            refine wpAnyN_take (i := 7) (v := .pointer (some ⟨hb, 1, none⟩)) (by kernel_rfl) rfl (by kernel_rfl) (by kernel_rfl) (by kernel_rfl) (fun _ _ _ h => h) (by rfl) (fun w' hS => ?_) hS1 ?_
            · obtain ⟨s1, s2, s3⟩ := hS
              go_simp
            simp only [Act.put, List.setIfInBounds_toArray, List.set_cons_zero, List.set_cons_succ]
            refine wpAnyN_take (i := 8) (v := .slice av lk cv) (by kernel_rfl) rfl (by kernel_rfl) (by kernel_rfl) (by kernel_rfl) (fun _ _ _ h => h) (by rfl) (fun w' hS => ?_) hS1 ?_
            · obtain ⟨s1, s2, s3⟩ := hS
              go_simp
            simp only [Act.put, List.setIfInBounds_toArray, List.set_cons_zero, List.set_cons_succ]
            refine wpAnyN_take (i := 9) (v := .pointer (some ⟨hb, 0, none⟩)) (by kernel_rfl) rfl (by kernel_rfl) (by kernel_rfl) (by kernel_rfl) (fun _ _ _ h => h) (by rfl) (fun w' hS => ?_) hS1 ?_
            · obtain ⟨s1, s2, s3⟩ := hS
              go_simp
            simp only [Act.put, List.setIfInBounds_toArray, List.set_cons_zero, List.set_cons_succ]
            refine wpAnyN_take (i := 10) (v := .pointer (some ⟨hb, 0, none⟩)) (by kernel_rfl) rfl (by kernel_rfl) (by kernel_rfl) (by kernel_rfl) (fun _ _ _ h => h) (by rfl) (fun w' hS => ?_) hS1 ?_
            · obtain ⟨s1, s2, s3⟩ := hS
              go_simp
            simp only [Act.put, List.setIfInBounds_toArray, List.set_cons_zero, List.set_cons_succ]
            refine wpAnyN_take (i := 11) (v := .pointer (some ⟨hb, 2, none⟩)) (by kernel_rfl) rfl (by kernel_rfl) (by kernel_rfl) (by kernel_rfl) (fun _ _ _ h => h) (by rfl) (fun w' hS => ?_) hS1 ?_
            · obtain ⟨s1, s2, s3⟩ := hS
              go_simp
            simp only [Act.put, List.setIfInBounds_toArray, List.set_cons_zero, List.set_cons_succ]
            refine wpAnyN_take (i := 12) (v := .int .i64 r) (by kernel_rfl) rfl (by kernel_rfl) (by kernel_rfl) (by kernel_rfl) (fun _ _ _ h => h) (by rfl) (fun w' hS => ?_) hS1 ?_
            · obtain ⟨s1, s2, s3⟩ := hS
              go_simp
            simp only [Act.put, List.setIfInBounds_toArray, List.set_cons_zero, List.set_cons_succ]
            refine wpAnyN_one (i := 13) (by kernel_rfl) rfl (by rfl) (fun K hK => ?_)
            go_simp
            rw [show r = (rn : Int) from hrn]
            refine Calls.mono (ga _) ?_
            rintro e wc ⟨gc, rfl, hBc, hGl, hGo⟩
            replace hBc : Below w1.heap.size w1 wc := ⟨hBc.os, hBc.tape, hBc.output, hBc.size, hBc.block⟩
            have FC : Fr (fun r => r = 107) ρg ρg w1 wc := Fr.ofBelow hBc
            refine hK.out _ _ (fun _ => SF wc FC) ?_
            clear hK
            refine wpAnyN_one (i := 14) (by kernel_rfl) rfl (by rfl) (fun K hK => ?_)
            go_simp
            obtain ⟨w4, hw4⟩ : ∃ w4, w4 = wc.alloc (.cells #[.slice (some ⟨w1.heap.size, 0, none⟩) lk gc] 38) := ⟨_, rfl⟩
            have F4 : Fr (fun r => r = 107) ρg ρg w1 w4 := by rw [hw4]; exact FC.alloc _
            rw [← hw4]
            refine hK.out _ _ (fun _ => SF w4 F4) ?_
            clear hK
            refine wpAnyN_one (i := 15) (by kernel_rfl) rfl (by rfl) (fun K hK => ?_)
            have hown4 : w4.ownsRow 0 38 1 (.slice a7 vl c7) vl vs := by
              rw [hw4]
              exact World.ownsRow.alloc (Fr.owns (Fr.ofBelow (S := fun _ => False) (ρ := ρg) hBc) hcr1 (fun _ _ h => h)) _
            have hsz4 : w4.heap.size = wc.heap.size + 1 := by rw [hw4]; simp
            refine wp_append_lies w4 (.tmp 98) (.tmp 108) 32 (by rfl) 0 38 i38 (.slice none 0 0) 1 24 Yba.underlying32 hi38 hy0 hy1 hy2 rfl (by decide) (.slice a7 vl c7) vl vs (by rfl) hown4 ⟨wc.heap.size, 0, none⟩ 1 1 [.slice (some ⟨w1.heap.size, 0, none⟩) lk gc] (by rfl) rfl ?_ (by intro u hu; simp at hu; subst hu; rfl) (by decide) hv1 hv2 (Nat.zero_le _) (wc.heap.size + 1) hsz4 ?_
            · exact World.news_of_block (by rw [hw4]; exact heapN _ _ _ rfl)
            intro g7 cap7 w5 hown5 hgr5 hat5 hlt5
            have F5 : Fr (fun r => r = 107) ρg ρg w1 w5 := F4.grown hgr5 (fun g e => rcg g e)
            refine hK.out _ _ (fun _ => SF w5 F5) ?_
            clear hK
            simp only [Act.put, List.setIfInBounds_toArray, List.set_cons_zero, List.set_cons_succ]
            have oX5 := F5.obj oX1 (by rw [rX]; omega)
            have oh5 := F5.obj oh1 (by rw [rb]; omega)
            have d1 : w5.cell? ⟨X, 7, none⟩ = some (.slice a7 vl c7) := (SF w5 F5).1
            have d2 : w5.frozen? ⟨X, 7, none⟩ = false := obj_frozen oX5 7
            have d3 : w5.cell? ⟨hb, 2, none⟩ = some (.int .i64 r) := (SF w5 F5).2.2
            have d4 : w5.frozen? ⟨hb, 2, none⟩ = false := obj_frozen oh5 2
            have f34 : Fr (fun _ => False) ρg ρg wc w4 := by rw [hw4]; exact (Fr.refl _ ρg wc).alloc _
            obtain ⟨ρ9, Rm9, E9, vs9, ys9, A9⟩ := fin wc w4 w5 gc g7 cap7 hBc hGl hGo f34 hgr5 hown5 (_root_.Or.imp id (fun e => by rw [hsz4]; exact Nat.le_of_eq e.symm) hat5) hlt5
            replace A9 := hid A9
            replace hown5 := hid hown5
            replace hgr5 := hid hgr5
            replace hat5 := hid hat5
            replace F5 := hid F5
            replace F4 := hid F4
            replace FC := hid FC
            replace hBc := hid hBc
            replace hGo := hid hGo
            replace oX5 := hid oX5
            replace oh5 := hid oh5
            replace hw4 := hid hw4
            replace hown4 := hid hown4
            replace hsz4 := hid hsz4
            replace f34 := hid f34
            refine wpAnyN_one (i := 16) (by kernel_rfl) rfl (by rfl) (fun K hK => ?_)
            go_simp
            refine hK.out _ _ (fun _ => SF w5 F5) ?_
            clear hK
            refine wpAnyN_one (i := 17) (by kernel_rfl) rfl (by rfl) (fun K hK => ?_)
            go_simp
            refine hK.out _ _ (fun _ => SF w5 F5) ?_
            clear hK
            refine wpAnyN_one (i := 18) (by kernel_rfl) rfl (by rfl) (fun K hK => ?_)
            go_simp
            refine hK.out _ _ (fun h => absurd rfl h) ?_
            clear hK
            refine wpAnyN_done (by kernel_rfl) ?_ _
            refine NoPanic.normal ?_
            go_wp2
            refine ⟨⟨j + 1, ρ9, Rm9, E9, ps ++ [k], vs9, ys9, _, hlt, ?_, by simp, A9⟩, ?_⟩
            · rw [List.length_append, show ps.length = pn from hpn]; rfl
            · simp [intOf]
              omega
          · go_wp2
            go_quiet (fail)
            go_wp2
            have A2 := Mk2.skip A1 hik hM ((Fr.refl _ ρr wr).drewN nq)
            refine ⟨⟨j + 1, ρr, _, E, ps, vs, ys, rc', hlt, rfl, by simp, A2⟩, ?_⟩
            simp [intOf]
            omega
        · have k1 : ¬ ((j : Int) < (nk : Int)) := by omega
          have hkl : ks.length = nk := hnk
          have hjk : j = ks.length := by omega
          rw [hjk] at A1
          obtain ⟨v8, w8, hsl, hcl, hs8, hf8, fin⟩ := make_end A1 hte (by omega)
          rw [hkl] at hsl
          obtain ⟨x8, hx8⟩ := Option.isSome_iff_exists.1 hs8
          have c6 : wr.cell? ⟨X, 6, none⟩ = some (.slice ah nk chh) := by
            have := obj_cell A1.jx.ho 6
            rw [hkl] at this
            exact this
          obtain ⟨pn, hpn⟩ : ∃ pn, ps.length = pn := ⟨_, rfl⟩
          rw [hpn] at hsl fin ⊢
          replace fin := hid fin
          replace A1 := hid A1
          replace hkl := hid hkl
          replace hjk := hid hjk
          replace hpn := hid hpn
          clear hs8
          go_wp2
          refine bodyPost_end (results_none rfl _ _ _) rfl ?_
          exact fin

/-- makeRoom, over the index. -/
theorem makeRoom_any (ρ : Nat → Nat) (X mb : Nat) (M : Nat → Option Nat) (L : Nat → List Chg) (pl : List Plc) (nb : Nat) (rh rc : Value) (os : Nat → OpS) (ob vb n f m ocap : Nat) (w : World)
    (hI : Ix w ρ X mb M L pl nb (.slice none 0 0) rh rc) (hR : R0 w ρ rh rc) (hO : OpsAt w ρ ob vb n os) (hfm : f + m ≤ n) (hm : m ≤ 1024) (hL : ∀ k, (L k).length ≤ 1000000) (hpl : pl.length ≤ 1000000) (hnb : nb ≤ 1000) :
    Calls Yba.prog 11 #[.pointer (some ⟨X, 0, none⟩), .slice (some ⟨ob, f * 13, none⟩) m ocap, .pointer (some ⟨X, 5, none⟩)] w (MkRes w ρ X mb M L pl (max nb ((pl.length + m + 1023) / 1024))) := by
  obtain ⟨V, ov, tv, hJ⟩ := hI.toJ
  exact makeRoom_core ρ X mb M L pl _ V ov tv rh rc os ob vb n f m ocap w (withRoom_any ρ X mb M L pl nb m V ov tv _ rh rc w hJ hpl hm hnb) hR hO hfm hm hL
end Go.Proofs.Ybulkdljs
