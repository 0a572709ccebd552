/-
  The walk over LawS5621BWhole.
-/
import Derived.Test.YbulkdljsLawGlue
namespace Go.Proofs.Ybulkdljs
open Go.RowKit
attribute [local go_sem] heapN heapP heapD setsN setsP setsD heapDN allocDN cellDN setsDN spl size_sets Value.oneCell'

/-- What the law leaves. -/
def LawRes (w : World) (e : Ending) (w' : World) : Prop := e = .returned (.bool true) ∧ Below w.heap.size w w'

set_option maxRecDepth 100000 in
theorem law_long (rev : Int) (mu : Nat) (pa ra : Option Addr) (np pc nr qc : Nat) (w : World) (h : 4096 < np ∨ 1024 < nr) :
    Calls Yba.prog 3 #[.int .i64 rev, .slice pa np pc, .slice ra nr qc, .int .u8 mu] w (LawRes w) := by
  by_cases h1 : 4096 < np
  · have k1 : (4096 : Int) < (np : Int) := by omega
    go_enter Yba.func3, Yba.ntmps3
    go_wp2
    go_ret
    exact ⟨rfl, Below.refl _ _⟩
  · have k1 : ¬ ((4096 : Int) < (np : Int)) := by omega
    have k2 : (1024 : Int) < (nr : Int) := by omega
    go_enter Yba.func3, Yba.ntmps3
    go_wp2
    go_ret
    exact ⟨rfl, Below.refl _ _⟩

theorem preRks_k {ps : Nat → Pre} (h : ∀ i, (ps i).k < 5) : ∀ n, ∀ r ∈ preRks ps n, r.k < 5
  | 0, r, hr => by simp [preRks] at hr
  | n + 1, r, hr => by
    simp only [preRks, List.mem_append, List.mem_cons, List.not_mem_nil, or_false] at hr
    rcases hr with hr | rfl
    · exact preRks_k h n r hr
    · exact h n
theorem opRks_k {rev : Int} {os : Nat → OpS} (h : ∀ i, (os i).k < 5) : ∀ n, ∀ r ∈ opRks rev os n, r.k < 5
  | 0, r, hr => by simp [opRks] at hr
  | n + 1, r, hr => by
    simp only [opRks, List.mem_append, List.mem_cons, List.not_mem_nil, or_false] at hr
    rcases hr with hr | rfl
    · exact opRks_k h n r hr
    · exact h n
theorem rks_ok {w : World} {pa ra : Option Addr} {nr : Nat} {ps : Nat → Pre} {ky kz : Nat → Int} {rw' os : Nat → OpS} {rev : Int} {N : Nat} (hin : PreAt w pa N ps ky) (hraw : RawAt w ra nr rw' kz) (hos : os = fun i => rw' (i % nr)) (np n : Nat) : ∀ (i : Nat) (r : Rk), (preRks ps np ++ opRks rev os n)[i]? = some r → r.k < 5 := fun i r hr => by
  have h1 : ∀ i, (ps i).k < 5 := fun i => by have := hin.key i; omega
  have h2 : ∀ i, (os i).k < 5 := fun i => by
    have h := hraw.key (i % nr)
    have e : os i = rw' (i % nr) := by rw [hos]
    rw [e]
    omega
  rcases List.mem_append.1 (List.mem_of_getElem? hr) with h | h
  · exact preRks_k h1 np r h
  · exact opRks_k h2 n r h
theorem Q3.below {w0 : World} {X mb EB : Nat} {M : Nat → Option Nat} {L : Nat → List Chg} {pl : List Plc} {rs : List Rk} {rh rc vk vr : Value} {w : World} {ρ : Nat → Nat} (h : Q3 w0 X mb EB M L pl rs rh rc vk vr w ρ) : Below w0.heap.size w0 w :=
  ⟨h.fr.os, h.fr.tape, h.fr.output, h.fr.size, fun b hb => h.fr.block b hb (fun e => e rfl)⟩

set_option linter.unusedSimpArgs false in
set_option maxRecDepth 100000 in
set_option maxHeartbeats 8000000 in
theorem law_short (rev : Int) (mu : Nat) (pa ra : Option Addr) (np pc nr qc : Nat) (ps : Nat → Pre) (ky : Nat → Int) (rw' : Nat → OpS) (kz : Nat → Int) (w : World) (hin : PreAt w pa np ps ky) (hraw : RawAt w ra nr rw' kz) (hnp : np ≤ 4096) (hnr : nr ≤ 1024) (hmu : mu ≤ 255) :
    Calls Yba.prog 3 #[.int .i64 rev, .slice pa np pc, .slice ra nr qc, .int .u8 mu] w (LawRes w) := by
  have hmf : ∀ (fn : Fn) (first cap : Array Value) (w : World), (Instr.makeFunc fn first cap).run Yba.prog w = .ok (.func fn first cap) w := fun _ _ _ _ => rfl
  have hnot : ∀ (x : Bool) (w : World), (Op.unary .not (.bool x)).run Yba.prog w = .ok (.bool (!x)) w := fun _ _ => rfl
  have q28 : ∀ (w : World) (a : Option Addr) (n c n' c' : Nat), (binOp .neq 28 (.slice a n c) (.slice none n' c')).run Yba.prog w = .ok (.bool (!a.isNone)) w := fun w a n c n' c' => run_neq_slice_nil_any w _ _ a n c n' c' Yba.underlying28
  obtain ⟨i70, hi70, hx0, hx1, hx2⟩ := part70
  obtain ⟨i54, hi54, hy0, hy1, hy2⟩ := part54
  obtain ⟨n, hn⟩ : ∃ n, n = nr * (1 + mu) := ⟨_, rfl⟩
  have hnb : n ≤ 262144 := by
    rw [hn]
    exact Nat.le_trans (Nat.mul_le_mul hnr (show 1 + mu ≤ 256 by omega)) (by decide)
  obtain ⟨os, hos⟩ : ∃ os : Nat → OpS, os = fun i => rw' (i % nr) := ⟨_, rfl⟩
  have hn70 : i70.bytes * n ≤ 281474976710656 := Nat.le_trans (Nat.mul_le_mul hx2 hnb) (by decide)
  have hn54 : i54.bytes * n ≤ 281474976710656 := Nat.le_trans (Nat.mul_le_mul hy2 hnb) (by decide)
  have hnm : n ≤ maxLen := Nat.le_trans hnb (by unfold maxLen; decide)
  have k1 : ¬ ((np : Int) > 4096) := by omega
  have k2 : ¬ ((nr : Int) > 1024) := by omega
  obtain ⟨M1, hM1⟩ : ∃ M1 : Int, (1 : Int) + (mu : Int) = M1 := ⟨_, rfl⟩
  have hM1w : wrap64 M1 = M1 := IntWalk.wrap64_in _ (by omega)
  have hnI : (nr : Int) * M1 = (n : Int) := by rw [← hM1, hn]; simp
  have hnw : wrap64 (n : Int) = (n : Int) := IntWalk.wrap64_in _ (by omega)
  replace hin := hid hin
  replace hraw := hid hraw
  replace hi70 := hid hi70
  replace hx0 := hid hx0
  replace hi54 := hid hi54
  replace hy0 := hid hy0
  replace hn := hid hn
  replace hos := hid hos
  replace hnb := hid hnb
  replace hn70 := hid hn70
  replace hn54 := hid hn54
  replace hnm := hid hnm
  clear hx2 hy2
  go_enter Yba.func3, Yba.ntmps3
  go_wp2_with (first | (go_at_call 4; refine (newIndex_any _).mono ?_; rintro e w1 ⟨rfl, rfl⟩))
  obtain ⟨ρ0, Q10⟩ := Q1.start w ps (.cells #[.map (some (w.heap.size + 1)), .pointer none, .slice none 0 0, .int .i64 0, .bool true, .slice none 0 0, .slice none 0 0, .slice none 0 0] 36)
  refine loop1 rev (mu : Int) pa ra np pc nr qc _ _ _ ps ky w _ ρ0 _ _ hin hnp Q10 ?_
  clear Q10
  intro u13 u14 u15 u16 u17 u18 u52 u53 u54 u55 u56 u57 u58 u59 u60 u61 u62 u63 u64 u65 u66 u67 u68 u69 u70 u71 u72 u73 u74 u75 u76 u77 u78 u79 u80 u81 u82 u83 u84 u85 u86 u87 u88 u89 u90 u91 u92 u93 u94 u95 u96 u97 u98 u99 u100 u101 u102 u103 u104 u105 u106 u107 u108 u109 u110 u111 u112 u113 u114 u115 u116 u117 u118 u119 vk vr wa ρa Ma pl A
  obtain ⟨X, hX⟩ : ∃ X, X = w.heap.size + 1 + 1 := ⟨_, rfl⟩
  obtain ⟨mb, hmb⟩ : ∃ mb, mb = w.heap.size + 1 := ⟨_, rfl⟩
  obtain ⟨EB, hEB⟩ : ∃ EB, EB = w.heap.size + 1 + 1 + 1 := ⟨_, rfl⟩
  rw [← hEB, ← hX]
  rw [← hEB, ← hX, ← hmb] at A
  replace A := hid A
  replace hX := hid hX
  replace hmb := hid hmb
  replace hEB := hid hEB
  have QA : Q1 w X mb EB ps np wa ρa Ma pl vk vr := A
  have q2c : ∀ {P : Prop}, P → P := fun h => h
  by_cases hz : nr = 0
  · have hn0 : n = 0 := by rw [show n = nr * (1 + mu) from hn, hz]; simp
    subst hn0
    have hz1 : ¬ ((0 : Int) < (nr : Int)) := by omega
    replace hz := hid hz
    replace QA := hid QA
    go_wp2_with (first
      | (at_make; refine wpList_make_full _ rfl (.tmp 129) (.tmp 129) 60 rfl 0 70 i70 (.agg (opA 0 0 (.slice none 0 0))) 13 Yba.underlying60 hi70 hx0 hx1 _ _ _ _ 0 rfl rfl (by rfl) (by rfl) hn70 hnm (Nat.zero_le _) ?_; intro w1 o1 g1; replace o1 := hid o1; replace g1 := hid g1)
      | (at_make; refine wpList_make_full _ rfl (.tmp 131) (.tmp 131) 61 rfl 0 54 i54 (.agg (valA 0 0 0)) 19 Yba.underlying61 hi54 hy0 hy1 _ _ _ _ 0 rfl rfl (by rfl) (by rfl) hn54 hnm (Nat.zero_le _) ?_; intro w2 o2 g2; replace o2 := hid o2; replace g2 := hid g2))
    try rw [hnw]
    clear hnw hM1w hnI hM1
    obtain ⟨ρb, Q20⟩ := Q2.start QA rev os o1 g1 o2 g2
    refine loop2 rev (mu : Int) pa ra np pc nr qc X mb EB Ma (preRun ps np) pl ((np + 1023) / 1024) (preRks ps np) rw' os kz wa.heap.size w1.heap.size 0 vk vr w _ ρb _ _ hraw (fun i => by rw [show os = _ from hos]) (fun _ => by omega) (by decide) (fun k => Nat.le_trans (preRun_length ps k np) hnp) (by rw [preRks_length]; exact hnp) Q20 ?_
    clear Q20
    intro u23 u24 u25 u26 u27 u22 u133 u134 u135 u136 u137 u138 u139 u140 u141 u142 u143 u144 u145 u146 u147 u148 u149 u150 u151 u152 u153 u154 u155 u156 u157 u158 u159 u160 u161 u162 u163 u164 u165 u166 u167 u168 u169 u170 u171 u172 u173 u174 u175 u176 u177 u178 u179 u180 u181 u182 u183 u184 u185 u186 u187 u188 u189 u190 u191 u192 u193 u194 u195 u196 u197 u198 u199 u200 u201 u202 u203 u204 u205 u206 u207 u208 u209 u210 u211 u212 u213 u214 u215 u216 u217 u218 u219 u220 u221 u222 u223 u224 u225 u226 u227 u228 u229 u230 u231 u232 u233 u234 u235 u236 u237 u238 vk' vr' wb ρc B
    obtain ⟨ob, hob⟩ : ∃ ob, ob = wa.heap.size := ⟨_, rfl⟩
    obtain ⟨vb, hvb⟩ : ∃ vb, vb = w1.heap.size := ⟨_, rfl⟩
    rw [← hob, ← hvb]
    rw [← hob, ← hvb] at B
    have hpl : pl.length = np := Q1.len QA
    obtain ⟨kb, hkb⟩ : ∃ kb, kb = wb.heap.size := ⟨_, rfl⟩
    obtain ⟨w4, hw4⟩ : ∃ w4, w4 = ((wb.alloc (.cells #[.int .i64 (np : Int)] 3)).alloc (.cells #[.int .i64 0] 3)).alloc (.cells #[.bool true] 4) := ⟨_, rfl⟩
    have f4 : Fr (fun _ => False) ρc (upd ρc (kb + 1) 2) wb w4 := by
      have a := ((Fr.refl (fun _ => False) ρc wb).alloc (.cells #[.int .i64 (np : Int)] 3)).allocAs (.cells #[.int .i64 0] 3) 2
      have e : (wb.alloc (.cells #[.int .i64 (np : Int)] 3)).heap.size = kb + 1 := by rw [hkb]; simp
      rw [e] at a
      rw [hw4]
      exact a.alloc _
    obtain ⟨ρd, hρd⟩ : ∃ ρd, ρd = upd ρc (kb + 1) 2 := ⟨_, rfl⟩
    rw [← hρd] at f4
    have zb : ρc kb = 0 := B.st.ix.tidy _ (by omega)
    have rkb : ρd kb = 0 := by rw [hρd, upd_other _ (by omega)]; exact zb
    have rkc : ρd (kb + 1) = 2 := by rw [hρd, upd_same]
    have rko : ρd (kb + 1 + 1) = 0 := by rw [hρd, upd_other _ (by omega)]; exact B.st.ix.tidy _ (by omega)
    have okb : objAt w4 kb = some (.cells #[.int .i64 (np : Int)] 3 (0, 0)) := by
      rw [hw4, heapP _ _ _ (by simp; omega), heapP _ _ _ (by simp; omega)]; exact heapN _ _ _ hkb
    have okc : objAt w4 (kb + 1) = some (.cells #[.int .i64 0] 3 (0, 0)) := by
      rw [hw4, heapP _ _ _ (by simp; omega)]; exact heapN _ _ _ (by simp; omega)
    have oko : objAt w4 (kb + 1 + 1) = some (.cells #[.bool true] 4 (0, 0)) := by
      rw [hw4]; exact heapN _ _ _ (by simp; omega)
    have I4 := B.st.ix.fr f4 (fun _ _ e => e)
    have R4 : R0 w4 ρd (.slice none 0 0) (.slice none 0 0) := ⟨⟨rfl, .inl ⟨rfl, rfl⟩⟩, fun g hg => by simp [Value.ownBlock] at hg, ⟨rfl, .inl ⟨rfl, rfl⟩⟩, fun g hg => by simp [Value.ownBlock] at hg⟩
    have O4 := B.row.ops.frS f4 (fun _ _ e => e)
    have hLp : ∀ k, (preRun ps np k).length ≤ 4096 := fun k => Nat.le_trans (preRun_length ps k np) hnp
    have as8 := applyInSteps_any ρd X mb kb (kb + 1) (kb + 1 + 1) Ma (preRun ps np) pl rev os ob vb 0 0 0 (.slice none 0 0) (.slice none 0 0) w4 (by rw [hpl]; exact I4) R4 O4 (Nat.le_refl _) (by decide) (by rw [hpl]; exact hnp) hLp (Q1.iff QA) (by rw [hpl]; exact obj_cell okb 0) (by rw [rkb]; decide) okc rkc
    have N5 : ∀ w5 c ρ5 M5 qs, Lp w4 ρd X mb (kb + 1) Ma (preRun ps np) pl rev os 0 c w5 ρ5 M5 qs → 0 ≤ c * 1024 → ∃ rh rc, Q3 w X mb EB M5 (Lrun (preRun ps np) rev os 0) (pl ++ qs) (preRks ps np ++ opRks rev os 0) rh rc vk' vr' w5 ρ5 ∧
        w5.cell? ⟨kb, 0, none⟩ = some (.int .i64 (np : Int)) ∧ w5.cell? ⟨kb + 1, 0, none⟩ = some (.int .i64 (c : Int)) ∧ w5.cell? ⟨kb + 1 + 1, 0, none⟩ = some (.bool true) ∧ (pl ++ qs).length = np + 0 := fun w5 c ρ5 M5 qs A5 hc5 => by
      obtain ⟨rh, rc, C⟩ := Q3.start B (Q1.pls QA) (by rw [hpl, preRks_length]) hLp (by rw [hpl]; exact hnp) (by decide) f4 A5 hc5
      have hl := A5.len
      rw [Nat.min_eq_right hc5] at hl
      exact ⟨rh, rc, C, A5.fr.cell (obj_cell okb 0) (by show ¬ (ρd kb = 2 ∨ 100 ≤ ρd kb); rw [rkb]; omega), obj_cell A5.calls 0, A5.fr.cell (obj_cell oko 0) (by show ¬ (ρd (kb + 1 + 1) = 2 ∨ 100 ≤ ρd (kb + 1 + 1)); rw [rko]; omega), by rw [List.length_append, hl, hpl]⟩
    have X5 : ∀ w5 M5 qs rh rc ρ5, Q3 w X mb EB M5 (Lrun (preRun ps np) rev os 0) (pl ++ qs) (preRks ps np ++ opRks rev os 0) rh rc vk' vr' w5 ρ5 → ∃ at' ct a6 c6 a7 c7, w5.cell? ⟨X, 2, none⟩ = some (.slice at' (((pl ++ qs).length + 1023) / 1024) ct) ∧ w5.cell? ⟨X, 3, none⟩ = some (.int .i64 ((pl ++ qs).length : Int)) ∧ w5.cell? ⟨X, 5, none⟩ = some (.slice none 0 0) ∧ w5.cell? ⟨X, 6, none⟩ = some (.slice a6 0 c6) ∧ w5.cell? ⟨X, 7, none⟩ = some (.slice a7 0 c7) := fun w5 M5 qs rh rc ρ5 C => by
      obtain ⟨ov, tv, bl, no, ho, hT, hl, _, _⟩ := C.ix.x
      obtain ⟨at', ct, e2⟩ := form_any hT.row
      obtain ⟨a6, c6, e6⟩ := form_any C.r0.h
      obtain ⟨a7, c7, e7⟩ := form_any C.r0.c
      rw [hl] at e2
      exact ⟨at', ct, a6, c6, a7, c7, by rw [← e2]; exact obj_cell ho 2, obj_cell ho 3, obj_cell ho 5, by rw [← e6]; exact obj_cell ho 6, by rw [← e7]; exact obj_cell ho 7⟩
    replace B := hid B
    replace f4 := hid f4
    replace zb := hid zb
    replace rkb := hid rkb
    replace rkc := hid rkc
    replace rko := hid rko
    replace okb := hid okb
    replace okc := hid okc
    replace oko := hid oko
    replace I4 := hid I4
    replace R4 := hid R4
    replace O4 := hid O4
    replace hLp := hid hLp
    replace as8 := hid as8
    replace N5 := hid N5
    replace X5 := hid X5
    replace hw4 := hid hw4
    replace hρd := hid hρd
    replace hob := hid hob
    replace hvb := hid hvb
    replace hpl := hid hpl
    replace hkb := hid hkb
    go_wp2_with (first
      | (go_at_call 8; rw [← show kb = wb.heap.size from hkb, ← hw4]; refine Calls.mono as8 ?_; intro e w5 hq; obtain ⟨c, ρ5, M5, qs, rfl, A5, hc5⟩ := hq
         obtain ⟨rh, rc, C5, d0, d1, d2, hlen5⟩ := N5 w5 c ρ5 M5 qs A5 hc5
         obtain ⟨at', ct, a6, c6, a7, c7, x2, x3, x5, x6, x7⟩ := X5 w5 M5 qs rh rc ρ5 C5
         have hlt5 : c * 1024 < 0 + 1024 := Lp.lt A5
         have hc0 : c = 0 := (by omega)
         subst hc0
         obtain ⟨tt, htt⟩ : ∃ tt, tt = (pl ++ qs).length := ⟨_, rfl⟩
         rw [← htt] at x2 x3 hlen5
         obtain ⟨TT, hTT⟩ : ∃ TT : Int, TT = (tt : Int) := ⟨_, rfl⟩
         rw [← hTT] at x3
         have hT0 : (np : Int) = TT := (by omega)
         have hbt : tt ≤ 266240 := (by rw [htt]; exact C5.lenP)
         have hTw : wrap64 TT = TT := IntWalk.wrap64_in _ (by omega)
         obtain ⟨T1, hT1⟩ : ∃ T1 : Int, TT + 1024 = T1 := ⟨_, rfl⟩
         have hT1w : wrap64 T1 = T1 := IntWalk.wrap64_in _ (by omega)
         obtain ⟨T2, hT2⟩ : ∃ T2 : Int, T1 - 1 = T2 := ⟨_, rfl⟩
         have hT2w : wrap64 T2 = T2 := IntWalk.wrap64_in _ (by omega)
         obtain ⟨nbT, hnbT⟩ : ∃ nbT, nbT = (tt + 1023) / 1024 := ⟨_, rfl⟩
         rw [← hnbT] at x2
         have hT3 : Int.tdiv T2 1024 = (nbT : Int) := (by rw [hnbT, ← quo_nat]; congr 1; omega)
         have hnbw : wrap64 (nbT : Int) = (nbT : Int) := IntWalk.wrap64_in _ (by omega)
         replace C5 := hid C5
         replace A5 := hid A5
         replace hlen5 := hid hlen5
         replace htt := hid htt
         replace hTT := hid hTT
         replace hbt := hid hbt
         replace hnbT := hid hnbT))
    try rw [hTw]
    rw [show TT = (tt : Int) from hTT]
    refine loop3 X mb EB M5 (Lrun (preRun ps np) rev os 0) (pl ++ qs) (preRks ps np ++ opRks rev os 0) rh rc vk' vr' w _ ρ5 _ _ C5 ?_
    intro u8 u34 u35 u36 u37 u295 u296 u297 u298 u299 u300 u301 u302 u303 u304 u305 u306 u307 u308 u309 u310 u311 u312 u313 u314 u315 u316 u317 u318 u319 u320 u321 u322 u323 u324 u325 u326 u327 u328 u329 u330 u331 u332 u333 u334 u335 u336 u337 u338 u339 u340 u341 u342 u343 u344 u345 u346 u347 u348 u349 u350 u351 u352 u353 u354 u355 u356 u357 u358 u359 u360 u361 u362 u363 u364 u365 wc C6
    have C6' : Q3 w X mb EB M5 (Lrun (preRun ps np) rev os 0) (pl ++ qs) (preRks ps np ++ opRks rev os 0) rh rc vk' vr' wc ρ5 := C6
    have y0 : wc.cell? ⟨X, 0, none⟩ = some (.map (some mb)) := by
      obtain ⟨ov, tv, bl, no, ho, _⟩ := C6'.ix.x
      exact obj_cell ho 0
    have yl := fun ty => C6'.ix.map.len ty
    replace C6 := hid C6
    replace C6' := hid C6'
    clear x2 x3 x5 x6 x7 d0 d1 d2 hT0 hTw hT1w hT2w hT3 hT1 hT2 hnbw
    go_wp2
    refine loop5 X mb EB tt M5 (Lrun (preRun ps np) rev os 0) (pl ++ qs) (preRks ps np ++ opRks rev os 0) rh rc vk' vr' w _ ρ5 _ _ htt (rks_ok hin hraw hos np 0) C6 ?_
    intro u8 u38 u39 u371 u372 u373 u374 u375 u376 u377 u378 u379 u380 u381 u382 u383 u384 u385 u386 u387 u388 u389 u390 u391 u392 u393 u394 u395 u396 u397 u398 u399 u400 u401 u402 u403 u404 u405 u406 u407 wd C7
    have C7' : Q3 w X mb EB M5 (Lrun (preRun ps np) rev os 0) (pl ++ qs) (preRks ps np ++ opRks rev os 0) rh rc vk' vr' wd ρ5 := C7
    replace C7 := hid C7
    replace C7' := hid C7'
    clear y0 yl
    go_wp2
    go_ret
    exact ⟨rfl, Q3.below C7'⟩
  · have hz1 : (0 : Int) < (nr : Int) := by omega
    replace QA := hid QA
    go_wp2_with (first
      | (at_make; refine wpList_make_full _ rfl (.tmp 129) (.tmp 129) 60 rfl 0 70 i70 (.agg (opA 0 0 (.slice none 0 0))) 13 Yba.underlying60 hi70 hx0 hx1 _ _ _ _ n rfl rfl (by first | rfl | exact hnw) (by first | rfl | exact hnw) hn70 hnm (Nat.zero_le _) ?_; intro w1 o1 g1; replace o1 := hid o1; replace g1 := hid g1)
      | (at_make; refine wpList_make_full _ rfl (.tmp 131) (.tmp 131) 61 rfl 0 54 i54 (.agg (valA 0 0 0)) 19 Yba.underlying61 hi54 hy0 hy1 _ _ _ _ n rfl rfl (by first | rfl | exact hnw) (by first | rfl | exact hnw) hn54 hnm (Nat.zero_le _) ?_; intro w2 o2 g2; replace o2 := hid o2; replace g2 := hid g2))
    try rw [hnw]
    clear hnw hM1w hnI hM1
    obtain ⟨ρb, Q20⟩ := Q2.start QA rev os o1 g1 o2 g2
    refine loop2 rev (mu : Int) pa ra np pc nr qc X mb EB Ma (preRun ps np) pl ((np + 1023) / 1024) (preRks ps np) rw' os kz wa.heap.size w1.heap.size n vk vr w _ ρb _ _ hraw (fun i => by rw [show os = _ from hos]) (fun _ => by omega) hnb (fun k => Nat.le_trans (preRun_length ps k np) hnp) (by rw [preRks_length]; exact hnp) Q20 ?_
    clear Q20
    intro u23 u24 u25 u26 u27 u22 u133 u134 u135 u136 u137 u138 u139 u140 u141 u142 u143 u144 u145 u146 u147 u148 u149 u150 u151 u152 u153 u154 u155 u156 u157 u158 u159 u160 u161 u162 u163 u164 u165 u166 u167 u168 u169 u170 u171 u172 u173 u174 u175 u176 u177 u178 u179 u180 u181 u182 u183 u184 u185 u186 u187 u188 u189 u190 u191 u192 u193 u194 u195 u196 u197 u198 u199 u200 u201 u202 u203 u204 u205 u206 u207 u208 u209 u210 u211 u212 u213 u214 u215 u216 u217 u218 u219 u220 u221 u222 u223 u224 u225 u226 u227 u228 u229 u230 u231 u232 u233 u234 u235 u236 u237 u238 vk' vr' wb ρc B
    obtain ⟨ob, hob⟩ : ∃ ob, ob = wa.heap.size := ⟨_, rfl⟩
    obtain ⟨vb, hvb⟩ : ∃ vb, vb = w1.heap.size := ⟨_, rfl⟩
    rw [← hob, ← hvb]
    rw [← hob, ← hvb] at B
    have hpl : pl.length = np := Q1.len QA
    obtain ⟨kb, hkb⟩ : ∃ kb, kb = wb.heap.size := ⟨_, rfl⟩
    obtain ⟨w4, hw4⟩ : ∃ w4, w4 = ((wb.alloc (.cells #[.int .i64 (np : Int)] 3)).alloc (.cells #[.int .i64 0] 3)).alloc (.cells #[.bool true] 4) := ⟨_, rfl⟩
    have f4 : Fr (fun _ => False) ρc (upd ρc (kb + 1) 2) wb w4 := by
      have a := ((Fr.refl (fun _ => False) ρc wb).alloc (.cells #[.int .i64 (np : Int)] 3)).allocAs (.cells #[.int .i64 0] 3) 2
      have e : (wb.alloc (.cells #[.int .i64 (np : Int)] 3)).heap.size = kb + 1 := by rw [hkb]; simp
      rw [e] at a
      rw [hw4]
      exact a.alloc _
    obtain ⟨ρd, hρd⟩ : ∃ ρd, ρd = upd ρc (kb + 1) 2 := ⟨_, rfl⟩
    rw [← hρd] at f4
    have zb : ρc kb = 0 := B.st.ix.tidy _ (by omega)
    have rkb : ρd kb = 0 := by rw [hρd, upd_other _ (by omega)]; exact zb
    have rkc : ρd (kb + 1) = 2 := by rw [hρd, upd_same]
    have rko : ρd (kb + 1 + 1) = 0 := by rw [hρd, upd_other _ (by omega)]; exact B.st.ix.tidy _ (by omega)
    have okb : objAt w4 kb = some (.cells #[.int .i64 (np : Int)] 3 (0, 0)) := by
      rw [hw4, heapP _ _ _ (by simp; omega), heapP _ _ _ (by simp; omega)]; exact heapN _ _ _ hkb
    have okc : objAt w4 (kb + 1) = some (.cells #[.int .i64 0] 3 (0, 0)) := by
      rw [hw4, heapP _ _ _ (by simp; omega)]; exact heapN _ _ _ (by simp; omega)
    have oko : objAt w4 (kb + 1 + 1) = some (.cells #[.bool true] 4 (0, 0)) := by
      rw [hw4]; exact heapN _ _ _ (by simp; omega)
    have I4 := B.st.ix.fr f4 (fun _ _ e => e)
    have R4 : R0 w4 ρd (.slice none 0 0) (.slice none 0 0) := ⟨⟨rfl, .inl ⟨rfl, rfl⟩⟩, fun g hg => by simp [Value.ownBlock] at hg, ⟨rfl, .inl ⟨rfl, rfl⟩⟩, fun g hg => by simp [Value.ownBlock] at hg⟩
    have O4 := B.row.ops.frS f4 (fun _ _ e => e)
    have hLp : ∀ k, (preRun ps np k).length ≤ 4096 := fun k => Nat.le_trans (preRun_length ps k np) hnp
    have as8 := applyInSteps_any ρd X mb kb (kb + 1) (kb + 1 + 1) Ma (preRun ps np) pl rev os ob vb n n n (.slice none 0 0) (.slice none 0 0) w4 (by rw [hpl]; exact I4) R4 O4 (Nat.le_refl _) hnb (by rw [hpl]; exact hnp) hLp (Q1.iff QA) (by rw [hpl]; exact obj_cell okb 0) (by rw [rkb]; decide) okc rkc
    have N5 : ∀ w5 c ρ5 M5 qs, Lp w4 ρd X mb (kb + 1) Ma (preRun ps np) pl rev os n c w5 ρ5 M5 qs → n ≤ c * 1024 → ∃ rh rc, Q3 w X mb EB M5 (Lrun (preRun ps np) rev os n) (pl ++ qs) (preRks ps np ++ opRks rev os n) rh rc vk' vr' w5 ρ5 ∧
        w5.cell? ⟨kb, 0, none⟩ = some (.int .i64 (np : Int)) ∧ w5.cell? ⟨kb + 1, 0, none⟩ = some (.int .i64 (c : Int)) ∧ w5.cell? ⟨kb + 1 + 1, 0, none⟩ = some (.bool true) ∧ (pl ++ qs).length = np + n := fun w5 c ρ5 M5 qs A5 hc5 => by
      obtain ⟨rh, rc, C⟩ := Q3.start B (Q1.pls QA) (by rw [hpl, preRks_length]) hLp (by rw [hpl]; exact hnp) hnb f4 A5 hc5
      have hl := A5.len
      rw [Nat.min_eq_right hc5] at hl
      exact ⟨rh, rc, C, A5.fr.cell (obj_cell okb 0) (by show ¬ (ρd kb = 2 ∨ 100 ≤ ρd kb); rw [rkb]; omega), obj_cell A5.calls 0, A5.fr.cell (obj_cell oko 0) (by show ¬ (ρd (kb + 1 + 1) = 2 ∨ 100 ≤ ρd (kb + 1 + 1)); rw [rko]; omega), by rw [List.length_append, hl, hpl]⟩
    have X5 : ∀ w5 M5 qs rh rc ρ5, Q3 w X mb EB M5 (Lrun (preRun ps np) rev os n) (pl ++ qs) (preRks ps np ++ opRks rev os n) rh rc vk' vr' w5 ρ5 → ∃ at' ct a6 c6 a7 c7, w5.cell? ⟨X, 2, none⟩ = some (.slice at' (((pl ++ qs).length + 1023) / 1024) ct) ∧ w5.cell? ⟨X, 3, none⟩ = some (.int .i64 ((pl ++ qs).length : Int)) ∧ w5.cell? ⟨X, 5, none⟩ = some (.slice none 0 0) ∧ w5.cell? ⟨X, 6, none⟩ = some (.slice a6 0 c6) ∧ w5.cell? ⟨X, 7, none⟩ = some (.slice a7 0 c7) := fun w5 M5 qs rh rc ρ5 C => by
      obtain ⟨ov, tv, bl, no, ho, hT, hl, _, _⟩ := C.ix.x
      obtain ⟨at', ct, e2⟩ := form_any hT.row
      obtain ⟨a6, c6, e6⟩ := form_any C.r0.h
      obtain ⟨a7, c7, e7⟩ := form_any C.r0.c
      rw [hl] at e2
      exact ⟨at', ct, a6, c6, a7, c7, by rw [← e2]; exact obj_cell ho 2, obj_cell ho 3, obj_cell ho 5, by rw [← e6]; exact obj_cell ho 6, by rw [← e7]; exact obj_cell ho 7⟩
    replace B := hid B
    replace f4 := hid f4
    replace zb := hid zb
    replace rkb := hid rkb
    replace rkc := hid rkc
    replace rko := hid rko
    replace okb := hid okb
    replace okc := hid okc
    replace oko := hid oko
    replace I4 := hid I4
    replace R4 := hid R4
    replace O4 := hid O4
    replace hLp := hid hLp
    replace as8 := hid as8
    replace N5 := hid N5
    replace X5 := hid X5
    replace hw4 := hid hw4
    replace hρd := hid hρd
    replace hob := hid hob
    replace hvb := hid hvb
    replace hpl := hid hpl
    replace hkb := hid hkb
    go_wp2_with (first
      | (go_at_call 8; rw [← show kb = wb.heap.size from hkb, ← hw4]; refine Calls.mono as8 ?_; intro e w5 hq; obtain ⟨c, ρ5, M5, qs, rfl, A5, hc5⟩ := hq
         obtain ⟨rh, rc, C5, d0, d1, d2, hlen5⟩ := N5 w5 c ρ5 M5 qs A5 hc5
         obtain ⟨at', ct, a6, c6, a7, c7, x2, x3, x5, x6, x7⟩ := X5 w5 M5 qs rh rc ρ5 C5
         have hq1 : Int.tdiv ((n : Int) + 1023) 1024 = (c : Int) := quo_steps hc5 (Lp.lt A5)
         obtain ⟨N1, hN1⟩ : ∃ N1 : Int, (n : Int) + 1024 = N1 := ⟨_, rfl⟩
         have hN1w : wrap64 N1 = N1 := IntWalk.wrap64_in _ (by have h1 : n ≤ 262144 := hnb; omega)
         obtain ⟨N2, hN2⟩ : ∃ N2 : Int, N1 - 1 = N2 := ⟨_, rfl⟩
         have hN2w : wrap64 N2 = N2 := IntWalk.wrap64_in _ (by have h1 : n ≤ 262144 := hnb; omega)
         have hN3 : Int.tdiv N2 1024 = (c : Int) := (by rw [← hq1]; congr 1; omega)
         have hcw : wrap64 (c : Int) = (c : Int) := IntWalk.wrap64_in _ (by have h1 : n ≤ 262144 := hnb; have h2 := Lp.lt A5; omega)
         obtain ⟨tt, htt⟩ : ∃ tt, tt = (pl ++ qs).length := ⟨_, rfl⟩
         rw [← htt] at x2 x3 hlen5
         obtain ⟨TT, hTT⟩ : ∃ TT : Int, TT = (tt : Int) := ⟨_, rfl⟩
         rw [← hTT] at x3
         have hT0 : (np : Int) + (n : Int) = TT := (by omega)
         have hbt : tt ≤ 266240 := (by rw [htt]; exact C5.lenP)
         have hTw : wrap64 TT = TT := IntWalk.wrap64_in _ (by omega)
         obtain ⟨T1, hT1⟩ : ∃ T1 : Int, TT + 1024 = T1 := ⟨_, rfl⟩
         have hT1w : wrap64 T1 = T1 := IntWalk.wrap64_in _ (by omega)
         obtain ⟨T2, hT2⟩ : ∃ T2 : Int, T1 - 1 = T2 := ⟨_, rfl⟩
         have hT2w : wrap64 T2 = T2 := IntWalk.wrap64_in _ (by omega)
         obtain ⟨nbT, hnbT⟩ : ∃ nbT, nbT = (tt + 1023) / 1024 := ⟨_, rfl⟩
         rw [← hnbT] at x2
         have hT3 : Int.tdiv T2 1024 = (nbT : Int) := (by rw [hnbT, ← quo_nat]; congr 1; omega)
         have hnbw : wrap64 (nbT : Int) = (nbT : Int) := IntWalk.wrap64_in _ (by omega)
         replace C5 := hid C5
         replace A5 := hid A5
         replace hlen5 := hid hlen5
         replace htt := hid htt
         replace hTT := hid hTT
         replace hbt := hid hbt
         replace hnbT := hid hnbT
         replace hq1 := hid hq1))
    try rw [hTw]
    rw [show TT = (tt : Int) from hTT]
    refine loop3 X mb EB M5 (Lrun (preRun ps np) rev os n) (pl ++ qs) (preRks ps np ++ opRks rev os n) rh rc vk' vr' w _ ρ5 _ _ C5 ?_
    intro u8 u34 u35 u36 u37 u295 u296 u297 u298 u299 u300 u301 u302 u303 u304 u305 u306 u307 u308 u309 u310 u311 u312 u313 u314 u315 u316 u317 u318 u319 u320 u321 u322 u323 u324 u325 u326 u327 u328 u329 u330 u331 u332 u333 u334 u335 u336 u337 u338 u339 u340 u341 u342 u343 u344 u345 u346 u347 u348 u349 u350 u351 u352 u353 u354 u355 u356 u357 u358 u359 u360 u361 u362 u363 u364 u365 wc C6
    have C6' : Q3 w X mb EB M5 (Lrun (preRun ps np) rev os n) (pl ++ qs) (preRks ps np ++ opRks rev os n) rh rc vk' vr' wc ρ5 := C6
    have y0 : wc.cell? ⟨X, 0, none⟩ = some (.map (some mb)) := by
      obtain ⟨ov, tv, bl, no, ho, _⟩ := C6'.ix.x
      exact obj_cell ho 0
    have yl := fun ty => C6'.ix.map.len ty
    replace C6 := hid C6
    replace C6' := hid C6'
    clear x2 x3 x5 x6 x7 d0 d1 d2 hT0 hTw hT1w hT2w hT3 hT1 hT2 hnbw hcw hN1 hN1w hN2 hN2w hN3
    go_wp2
    refine loop5 X mb EB tt M5 (Lrun (preRun ps np) rev os n) (pl ++ qs) (preRks ps np ++ opRks rev os n) rh rc vk' vr' w _ ρ5 _ _ htt (rks_ok hin hraw hos np n) C6 ?_
    intro u8 u38 u39 u371 u372 u373 u374 u375 u376 u377 u378 u379 u380 u381 u382 u383 u384 u385 u386 u387 u388 u389 u390 u391 u392 u393 u394 u395 u396 u397 u398 u399 u400 u401 u402 u403 u404 u405 u406 u407 wd C7
    have C7' : Q3 w X mb EB M5 (Lrun (preRun ps np) rev os n) (pl ++ qs) (preRks ps np ++ opRks rev os n) rh rc vk' vr' wd ρ5 := C7
    replace C7 := hid C7
    replace C7' := hid C7'
    clear y0 yl
    go_wp2
    go_ret
    exact ⟨rfl, Q3.below C7'⟩
end Go.Proofs.Ybulkdljs
