/-
  The walk over LawS5621BWhole: its second loop.
-/
import Derived.Test.YbulkdljsLawOps
namespace Go.Proofs.Ybulkdljs
open Go.RowKit
attribute [local go_sem ↓] ld56_fold st56_fold ld54_fold st54_fold ld70_fold st70_fold
attribute [local go_sem] ld56_whole st56_whole st54_whole whole_ok wstore_ok heapN heapP heapD setsN setsP setsD heapDN allocDN cellDN setsDN spl size_sets Value.oneCell'

theorem stepL_is {L : Nat → List Chg} {rev : Int} {os : Nat → OpS} {i : Nat} {o : OpS} {c : Chg} (ho : o = os i) (hc : c = nextC (Lrun L rev os i o.k) o.del rev i o.lease o.addr o.size o.sum) :
    (fun j => if j = o.k then Lrun L rev os i o.k ++ [c] else Lrun L rev os i j) = Lrun L rev os (i + 1) := by
  funext j
  simp only [Lrun, stepL]
  rw [← ho]
  split
  · rename_i e
    rw [e, hc]
  · rfl

theorem Rows2.keep {w w' : World} {ρ ρ' : Nat → Nat} {ob vb n i : Nat} {os : Nat → OpS} (h : Rows2 w ρ ob vb n i os) (f : Fr (fun _ => False) ρ ρ' w w') : Rows2 w' ρ' ob vb n i os := h.fr f (fun e => e) (fun e => e) (fun e => e)

theorem eq_nil_or_snoc (l : List Chg) : l = [] ∨ ∃ (l' : List Chg) (c : Chg), l = l' ++ [c] := by
  rcases List.eq_nil_or_concat l with h | ⟨l', c, h⟩
  · exact .inl h
  · exact .inr ⟨l', c, by rw [h, List.concat_eq_append]⟩
theorem nextC_nil (m s le a z u : Int) : nextC [] false m s le a z u = ⟨m, s, m, 1, a, z, u, le⟩ := rfl
theorem nextC_zero (l : List Chg) (cl : Chg) (m s le a z u : Int) (h : cl.version = 0) : nextC (l ++ [cl]) false m s le a z u = ⟨m, s, m, 1, a, z, u, le⟩ := by simp [nextC, h]
theorem nextC_more (l : List Chg) (cl : Chg) (m s le a z u : Int) (h : ¬ cl.version = 0) : nextC (l ++ [cl]) false m s le a z u = ⟨m, s, cl.create, wrap64 (cl.version + 1), a, z, u, le⟩ := by simp [nextC, h]

theorem St.rows {w0 : World} {X mb EB : Nat} {w w' : World} {ρ ρ' : Nat → Nat} {M : Nat → Option Nat} {L : Nat → List Chg} {pl : List Plc} {nb : Nat} {E : Nat → List Chg} {ks rs : List Rk} {vk vr : Value} (h : St w0 X mb EB w ρ M L pl nb E ks rs vk vr) (f : Fr (fun r => r = 5 ∨ r = 6) ρ ρ' w w') : St w0 X mb EB w' ρ' M L pl nb E ks rs vk vr :=
  ⟨h.fr.trans (f.mono (fun r e => by omega)), h.ix.fr f (fun r hr e => by omega), h.ex.fr f (by omega) (fun k hk => by omega), f.owns h.pk (fun g hg => by rw [h.rk g hg]; omega), f.roleOf h.pk h.rk, f.owns h.pr (fun g hg => by rw [h.rr g hg]; omega), f.roleOf h.pr h.rr⟩

theorem st70_at {w : World} {b o : Nat} {A : Array Value} {t : TypeId} (hg : objAt w b = some (.cells A t (0, 0))) (h : o + 13 ≤ A.size) (kd lease : Int) (g l c : Nat) :
    (stT 70 (.pointer (some ⟨b, o, none⟩)) (.agg (opA kd lease (.slice (some ⟨g, 0, none⟩) l c)))).run Yba.prog w = .ok () (w.setCells b o (opA kd lease (.slice (some ⟨g, 0, none⟩) l c)).toList) := by
  rw [st70_whole, hg]
  exact wstore_ok 70 13 b o A _ t w h rfl (by simp [Value.oneCell'])
theorem st54_at {w : World} {b o : Nat} {A : Array Value} {t : TypeId} (hg : objAt w b = some (.cells A t (0, 0))) (h : o + 19 ≤ A.size) (a z u : Int) :
    (stT 54 (.pointer (some ⟨b, o, none⟩)) (.agg (valA a z u))).run Yba.prog w = .ok () (w.setCells b o (valA a z u).toList) := by
  rw [st54_whole, hg]
  exact wstore_ok 54 19 b o A _ t w h rfl (by simp [Value.oneCell'])

set_option linter.unusedSimpArgs false in
set_option maxRecDepth 100000 in
set_option maxHeartbeats 8000000 in
theorem loop2 {v4 v5 v6 v7 v13 v14 v15 v16 v17 v18 v23 v24 v25 v26 v27 v28 v29 v30 v31 v32 v33 v34 v35 v36 v37 v38 v39 v40 v41 v42 v43 v44 v45 v46 v47 v48 v49 v50 v51 v52 v53 v54 v55 v56 v57 v58 v59 v60 v61 v62 v63 v64 v65 v66 v67 v68 v69 v70 v71 v72 v73 v74 v75 v76 v77 v78 v79 v80 v81 v82 v83 v84 v85 v86 v87 v88 v89 v90 v91 v92 v93 v94 v95 v96 v97 v98 v99 v100 v101 v102 v103 v104 v105 v106 v107 v108 v109 v110 v111 v112 v113 v114 v115 v116 v117 v118 v119 v120 v121 v122 v123 v124 v125 v126 v127 v128 v129 v130 v131 v132 v133 v134 v135 v136 v137 v138 v139 v140 v141 v142 v143 v144 v145 v146 v147 v148 v149 v150 v151 v152 v153 v154 v155 v156 v157 v158 v159 v160 v161 v162 v163 v164 v165 v166 v167 v168 v169 v170 v171 v172 v173 v174 v175 v176 v177 v178 v179 v180 v181 v182 v183 v184 v185 v186 v187 v188 v189 v190 v191 v192 v193 v194 v195 v196 v197 v198 v199 v200 v201 v202 v203 v204 v205 v206 v207 v208 v209 v210 v211 v212 v213 v214 v215 v216 v217 v218 v219 v220 v221 v222 v223 v224 v225 v226 v227 v228 v229 v230 v231 v232 v233 v234 v235 v236 v237 v238 v239 v240 v241 v242 v243 v244 v245 v246 v247 v248 v249 v250 v251 v252 v253 v254 v255 v256 v257 v258 v259 v260 v261 v262 v263 v264 v265 v266 v267 v268 v269 v270 v271 v272 v273 v274 v275 v276 v277 v278 v279 v280 v281 v282 v283 v284 v285 v286 v287 v288 v289 v290 v291 v292 v293 v294 v295 v296 v297 v298 v299 v300 v301 v302 v303 v304 v305 v306 v307 v308 v309 v310 v311 v312 v313 v314 v315 v316 v317 v318 v319 v320 v321 v322 v323 v324 v325 v326 v327 v328 v329 v330 v331 v332 v333 v334 v335 v336 v337 v338 v339 v340 v341 v342 v343 v344 v345 v346 v347 v348 v349 v350 v351 v352 v353 v354 v355 v356 v357 v358 v359 v360 v361 v362 v363 v364 v365 v366 v367 v368 v369 v370 v371 v372 v373 v374 v375 v376 v377 v378 v379 v380 v381 v382 v383 v384 v385 v386 v387 v388 v389 v390 v391 v392 v393 v394 v395 v396 v397 v398 v399 v400 v401 v402 v403 v404 v405 v406 v407 : Value} (rev mult : Int) (pa ra : Option Addr) (np pc nr qc X mb EB : Nat) (M : Nat → Option Nat) (L : Nat → List Chg) (pl : List Plc) (nb : Nat) (rs : List Rk) (rw' os : Nat → OpS) (ky : Nat → Int) (ob vb n : Nat) (vk vr : Value) (w0 w : World) (ρ : Nat → Nat) (K : Act → World → Prop) (Q' : Exit → Act → World → Prop)
    (hin : RawAt w0 ra nr rw' ky) (hos : ∀ i, os i = rw' (i % nr)) (hnr : 0 < n → 0 < nr) (hn : n ≤ 262144) (hL : ∀ k, (L k).length ≤ 4096) (hrs : rs.length ≤ 4096) (h0 : Q2 w0 X mb EB M L pl nb rs rev os ob vb n 0 w ρ vk vr)
    (hK : ∀ ⦃u23 u24 u25 u26 u27 u22 u133 u134 u135 u136 u137 u138 u139 u140 u141 u142 u143 u144 u145 u146 u147 u148 u149 u150 u151 u152 u153 u154 u155 u156 u157 u158 u159 u160 u161 u162 u163 u164 u165 u166 u167 u168 u169 u170 u171 u172 u173 u174 u175 u176 u177 u178 u179 u180 u181 u182 u183 u184 u185 u186 u187 u188 u189 u190 u191 u192 u193 u194 u195 u196 u197 u198 u199 u200 u201 u202 u203 u204 u205 u206 u207 u208 u209 u210 u211 u212 u213 u214 u215 u216 u217 u218 u219 u220 u221 u222 u223 u224 u225 u226 u227 u228 u229 u230 u231 u232 u233 u234 u235 u236 u237 u238 vk' vr' : Value⦄ (w' : World) (ρ' : Nat → Nat), Q2 w0 X mb EB M L pl nb rs rev os ob vb n n w' ρ' vk' vr' →
      K ⟨List.toArray (.int .i64 rev :: .slice pa np pc :: .slice ra nr qc :: .int .u8 mult :: v4 :: v5 :: v6 :: v7 :: .bool false :: .pointer (some ⟨X, 0, none⟩) :: .pointer (some ⟨EB, 0, none⟩) :: vk' :: vr' :: v13 :: v14 :: v15 :: v16 :: v17 :: v18 :: .int .i64 (n : Int) :: .slice (some ⟨ob, 0, none⟩) n n :: .slice (some ⟨vb, 0, none⟩) n n :: u22 :: u23 :: u24 :: u25 :: u26 :: u27 :: v28 :: v29 :: v30 :: v31 :: v32 :: v33 :: v34 :: v35 :: v36 :: v37 :: v38 :: v39 :: v40 :: v41 :: v42 :: v43 :: v44 :: v45 :: v46 :: v47 :: v48 :: v49 :: v50 :: v51 :: v52 :: v53 :: v54 :: v55 :: v56 :: v57 :: v58 :: v59 :: v60 :: v61 :: v62 :: v63 :: v64 :: v65 :: v66 :: v67 :: v68 :: v69 :: v70 :: v71 :: v72 :: v73 :: v74 :: v75 :: v76 :: v77 :: v78 :: v79 :: v80 :: v81 :: v82 :: v83 :: v84 :: v85 :: v86 :: v87 :: v88 :: v89 :: v90 :: v91 :: v92 :: v93 :: v94 :: v95 :: v96 :: v97 :: v98 :: v99 :: v100 :: v101 :: v102 :: v103 :: v104 :: v105 :: v106 :: v107 :: v108 :: v109 :: v110 :: v111 :: v112 :: v113 :: v114 :: v115 :: v116 :: v117 :: v118 :: v119 :: v120 :: v121 :: v122 :: v123 :: v124 :: v125 :: v126 :: v127 :: v128 :: v129 :: v130 :: v131 :: v132 :: u133 :: u134 :: u135 :: u136 :: u137 :: u138 :: u139 :: u140 :: u141 :: u142 :: u143 :: u144 :: u145 :: u146 :: u147 :: u148 :: u149 :: u150 :: u151 :: u152 :: u153 :: u154 :: u155 :: u156 :: u157 :: u158 :: u159 :: u160 :: u161 :: u162 :: u163 :: u164 :: u165 :: u166 :: u167 :: u168 :: u169 :: u170 :: u171 :: u172 :: u173 :: u174 :: u175 :: u176 :: u177 :: u178 :: u179 :: u180 :: u181 :: u182 :: u183 :: u184 :: u185 :: u186 :: u187 :: u188 :: u189 :: u190 :: u191 :: u192 :: u193 :: u194 :: u195 :: u196 :: u197 :: u198 :: u199 :: u200 :: u201 :: u202 :: u203 :: u204 :: u205 :: u206 :: u207 :: u208 :: u209 :: u210 :: u211 :: u212 :: u213 :: u214 :: u215 :: u216 :: u217 :: u218 :: u219 :: u220 :: u221 :: u222 :: u223 :: u224 :: u225 :: u226 :: u227 :: u228 :: u229 :: u230 :: u231 :: u232 :: u233 :: u234 :: u235 :: u236 :: u237 :: u238 :: v239 :: v240 :: v241 :: v242 :: v243 :: v244 :: v245 :: v246 :: v247 :: v248 :: v249 :: v250 :: v251 :: v252 :: v253 :: v254 :: v255 :: v256 :: v257 :: v258 :: v259 :: v260 :: v261 :: v262 :: v263 :: v264 :: v265 :: v266 :: v267 :: v268 :: v269 :: v270 :: v271 :: v272 :: v273 :: v274 :: v275 :: v276 :: v277 :: v278 :: v279 :: v280 :: v281 :: v282 :: v283 :: v284 :: v285 :: v286 :: v287 :: v288 :: v289 :: v290 :: v291 :: v292 :: v293 :: v294 :: v295 :: v296 :: v297 :: v298 :: v299 :: v300 :: v301 :: v302 :: v303 :: v304 :: v305 :: v306 :: v307 :: v308 :: v309 :: v310 :: v311 :: v312 :: v313 :: v314 :: v315 :: v316 :: v317 :: v318 :: v319 :: v320 :: v321 :: v322 :: v323 :: v324 :: v325 :: v326 :: v327 :: v328 :: v329 :: v330 :: v331 :: v332 :: v333 :: v334 :: v335 :: v336 :: v337 :: v338 :: v339 :: v340 :: v341 :: v342 :: v343 :: v344 :: v345 :: v346 :: v347 :: v348 :: v349 :: v350 :: v351 :: v352 :: v353 :: v354 :: v355 :: v356 :: v357 :: v358 :: v359 :: v360 :: v361 :: v362 :: v363 :: v364 :: v365 :: v366 :: v367 :: v368 :: v369 :: v370 :: v371 :: v372 :: v373 :: v374 :: v375 :: v376 :: v377 :: v378 :: v379 :: v380 :: v381 :: v382 :: v383 :: v384 :: v385 :: v386 :: v387 :: v388 :: v389 :: v390 :: v391 :: v392 :: v393 :: v394 :: v395 :: v396 :: v397 :: v398 :: v399 :: v400 :: v401 :: v402 :: v403 :: v404 :: v405 :: v406 :: v407 :: []), []⟩ w') :
    Code.wp Yba.prog lp2 (Exit.inBlock 2 (Exit.then K Q')) ⟨List.toArray (.int .i64 rev :: .slice pa np pc :: .slice ra nr qc :: .int .u8 mult :: v4 :: v5 :: v6 :: v7 :: .bool false :: .pointer (some ⟨X, 0, none⟩) :: .pointer (some ⟨EB, 0, none⟩) :: vk :: vr :: v13 :: v14 :: v15 :: v16 :: v17 :: v18 :: .int .i64 (n : Int) :: .slice (some ⟨ob, 0, none⟩) n n :: .slice (some ⟨vb, 0, none⟩) n n :: .int .i64 0 :: v23 :: v24 :: v25 :: v26 :: v27 :: v28 :: v29 :: v30 :: v31 :: v32 :: v33 :: v34 :: v35 :: v36 :: v37 :: v38 :: v39 :: v40 :: v41 :: v42 :: v43 :: v44 :: v45 :: v46 :: v47 :: v48 :: v49 :: v50 :: v51 :: v52 :: v53 :: v54 :: v55 :: v56 :: v57 :: v58 :: v59 :: v60 :: v61 :: v62 :: v63 :: v64 :: v65 :: v66 :: v67 :: v68 :: v69 :: v70 :: v71 :: v72 :: v73 :: v74 :: v75 :: v76 :: v77 :: v78 :: v79 :: v80 :: v81 :: v82 :: v83 :: v84 :: v85 :: v86 :: v87 :: v88 :: v89 :: v90 :: v91 :: v92 :: v93 :: v94 :: v95 :: v96 :: v97 :: v98 :: v99 :: v100 :: v101 :: v102 :: v103 :: v104 :: v105 :: v106 :: v107 :: v108 :: v109 :: v110 :: v111 :: v112 :: v113 :: v114 :: v115 :: v116 :: v117 :: v118 :: v119 :: v120 :: v121 :: v122 :: v123 :: v124 :: v125 :: v126 :: v127 :: v128 :: v129 :: v130 :: v131 :: v132 :: v133 :: v134 :: v135 :: v136 :: v137 :: v138 :: v139 :: v140 :: v141 :: v142 :: v143 :: v144 :: v145 :: v146 :: v147 :: v148 :: v149 :: v150 :: v151 :: v152 :: v153 :: v154 :: v155 :: v156 :: v157 :: v158 :: v159 :: v160 :: v161 :: v162 :: v163 :: v164 :: v165 :: v166 :: v167 :: v168 :: v169 :: v170 :: v171 :: v172 :: v173 :: v174 :: v175 :: v176 :: v177 :: v178 :: v179 :: v180 :: v181 :: v182 :: v183 :: v184 :: v185 :: v186 :: v187 :: v188 :: v189 :: v190 :: v191 :: v192 :: v193 :: v194 :: v195 :: v196 :: v197 :: v198 :: v199 :: v200 :: v201 :: v202 :: v203 :: v204 :: v205 :: v206 :: v207 :: v208 :: v209 :: v210 :: v211 :: v212 :: v213 :: v214 :: v215 :: v216 :: v217 :: v218 :: v219 :: v220 :: v221 :: v222 :: v223 :: v224 :: v225 :: v226 :: v227 :: v228 :: v229 :: v230 :: v231 :: v232 :: v233 :: v234 :: v235 :: v236 :: v237 :: v238 :: v239 :: v240 :: v241 :: v242 :: v243 :: v244 :: v245 :: v246 :: v247 :: v248 :: v249 :: v250 :: v251 :: v252 :: v253 :: v254 :: v255 :: v256 :: v257 :: v258 :: v259 :: v260 :: v261 :: v262 :: v263 :: v264 :: v265 :: v266 :: v267 :: v268 :: v269 :: v270 :: v271 :: v272 :: v273 :: v274 :: v275 :: v276 :: v277 :: v278 :: v279 :: v280 :: v281 :: v282 :: v283 :: v284 :: v285 :: v286 :: v287 :: v288 :: v289 :: v290 :: v291 :: v292 :: v293 :: v294 :: v295 :: v296 :: v297 :: v298 :: v299 :: v300 :: v301 :: v302 :: v303 :: v304 :: v305 :: v306 :: v307 :: v308 :: v309 :: v310 :: v311 :: v312 :: v313 :: v314 :: v315 :: v316 :: v317 :: v318 :: v319 :: v320 :: v321 :: v322 :: v323 :: v324 :: v325 :: v326 :: v327 :: v328 :: v329 :: v330 :: v331 :: v332 :: v333 :: v334 :: v335 :: v336 :: v337 :: v338 :: v339 :: v340 :: v341 :: v342 :: v343 :: v344 :: v345 :: v346 :: v347 :: v348 :: v349 :: v350 :: v351 :: v352 :: v353 :: v354 :: v355 :: v356 :: v357 :: v358 :: v359 :: v360 :: v361 :: v362 :: v363 :: v364 :: v365 :: v366 :: v367 :: v368 :: v369 :: v370 :: v371 :: v372 :: v373 :: v374 :: v375 :: v376 :: v377 :: v378 :: v379 :: v380 :: v381 :: v382 :: v383 :: v384 :: v385 :: v386 :: v387 :: v388 :: v389 :: v390 :: v391 :: v392 :: v393 :: v394 :: v395 :: v396 :: v397 :: v398 :: v399 :: v400 :: v401 :: v402 :: v403 :: v404 :: v405 :: v406 :: v407 :: []), []⟩ w := by
  obtain ⟨i3, hi3, hb0, hb1, hb2⟩ := info_parts info3
  obtain ⟨i49, hi49, hc0, hc1, hc2⟩ := info_parts info49
  obtain ⟨i56, hi56, hd0, hd1, hd2⟩ := info_parts info56z
  have hnot : ∀ (x : Bool) (w : World), (Op.unary .not (.bool x)).run Yba.prog w = .ok (.bool (!x)) w := fun _ _ => rfl
  replace hK := hid hK
  replace hin := hid hin
  replace h0 := hid h0
  replace hi3 := hid hi3
  replace hb0 := hid hb0
  replace hi49 := hid hi49
  replace hc0 := hid hc0
  replace hi56 := hid hi56
  replace hd0 := hid hd0
  replace hos := hid hos
  replace hL := hid hL
  replace hrs := hid hrs
  refine (show Code.wp Yba.prog (Code.loop _) _ _ _ from ?_)
  go_loopw [11, 12, 22] (fun v11 v12 v22 wr => ∃ (i : Nat) (ρr : Nat → Nat), i ≤ n ∧ v22 = .int .i64 i ∧ Hid (Q2 w0 X mb EB M L pl nb rs rev os ob vb n i wr ρr v11 v12)) (fun _ _ v22 _ => n - (intOf v22).toNat)
  case atStart => exact ⟨0, _, Nat.zero_le _, rfl, h0⟩
  case round =>
    obtain ⟨i, ρr, hi, rfl, A⟩ := hrel
    clear h0
    have A1 : Q2 w0 X mb EB M L pl nb rs rev os ob vb n i wr ρr u11 u12 := A
    by_cases hlt : i < n
    · have k1 : (i : Int) < (n : Int) := by omega
      have k3 : (0 : Int) ≤ (i : Int) := by omega
      have hnr0 : 0 < nr := hnr (by omega)
      obtain ⟨j, hj⟩ : ∃ j, j = i % nr := ⟨_, rfl⟩
      have hjl : j < nr := by rw [hj]; exact Nat.mod_lt _ hnr0
      obtain ⟨pb, po, hra, hrg⟩ := RawAt.at' hin j hjl
      obtain ⟨hy0, hy1, hy2⟩ := RawAt.key hin j
      have hoj : os i = rw' j := by rw [hj]; exact hos i
      subst hra
      obtain ⟨key, hkey⟩ : ∃ key, key = ky j := ⟨_, rfl⟩
      obtain ⟨o, ho⟩ : ∃ o, o = os i := ⟨_, rfl⟩
      rw [← hoj] at hrg hy2
      rw [← hkey, ← ho] at hrg
      rw [← hkey] at hy0 hy1
      rw [← hkey, ← ho] at hy2
      have hk5 : o.k < 5 := by omega
      have hkI : (o.k : Int) < 5 := by omega
      have hkJ : (0 : Int) ≤ (o.k : Int) := by omega
      have m1 : (i : Int) % (nr : Int) = (j : Int) := by rw [hj]; omega
      have m2 : Int.tmod (i : Int) (nr : Int) = (j : Int) := by rw [Int.tmod_eq_emod_of_nonneg (by omega)]; exact m1
      have m3 : (nr : Int) ≠ 0 := by omega
      have m4 : (j : Int) < (nr : Int) := by omega
      have m5 : (0 : Int) ≤ (j : Int) := by omega
      have rg : ∀ q v, ([.int .u8 key, .bool o.del, .int .i64 o.lease, .int .i64 o.addr, .int .u32 o.size, .int .u32 o.sum] : List Value)[q]? = some v → wr.cell? ⟨pb, po + j * 6 + q, none⟩ = some v := fun q v hv => A1.st.fr.cell (hrg q v hv) (by simp)
      have e0 : wr.cell? ⟨pb, po + j * 6, none⟩ = some (.int .u8 key) := rg 0 _ rfl
      have e1 : wr.cell? ⟨pb, po + j * 6 + 1, none⟩ = some (.bool o.del) := rg 1 _ rfl
      have e2 : wr.cell? ⟨pb, po + j * 6 + 2, none⟩ = some (.int .i64 o.lease) := rg 2 _ rfl
      have e3 : wr.cell? ⟨pb, po + j * 6 + 3, none⟩ = some (.int .i64 o.addr) := rg 3 _ rfl
      have e4 : wr.cell? ⟨pb, po + j * 6 + 4, none⟩ = some (.int .u32 o.size) := rg 4 _ rfl
      have e5 : wr.cell? ⟨pb, po + j * 6 + 5, none⟩ = some (.int .u32 o.sum) := rg 5 _ rfl
      obtain ⟨w1, hw1⟩ : ∃ w1, w1 = wr.alloc (.cells #[.int .u8 key, .bool o.del, .int .i64 o.lease, .int .i64 o.addr, .int .u32 o.size, .int .u32 o.sum] 63) := ⟨_, rfl⟩
      have F1 : Fr (fun _ => False) ρr ρr wr w1 := by rw [hw1]; exact (Fr.refl _ ρr wr).alloc _
      have S1 := A1.st.keep F1
      have R1 := A1.row.keep F1
      have T23 : objAt w1 wr.heap.size = some (.cells #[.int .u8 key, .bool o.del, .int .i64 o.lease, .int .i64 o.addr, .int .u32 o.size, .int .u32 o.sum] 63 (0, 0)) := by rw [hw1]; exact heapN _ _ _ rfl
      have r23 : ρr wr.heap.size = 0 := A1.st.ix.tidy _ (Nat.le_refl _)
      replace rg := hid rg
      replace hrg := hid hrg
      replace A1 := hid A1
      replace ho := hid ho
      replace hoj := hid hoj
      replace hj := hid hj
      replace hkey := hid hkey
      replace F1 := hid F1
      replace S1 := hid S1
      replace R1 := hid R1
      replace r23 := hid r23
      cases hdel : o.del with
      | true =>
        rw [hdel] at e1 hw1 T23
        have hkd2 : ((2 : Int)) = (if o.del then 2 else 1) := by rw [hdel]; rfl
        have hS1 : w1.drew.cell? ⟨wr.heap.size, 2, none⟩ = some (.int .i64 o.lease) := obj_cell T23 2
        have SF : ∀ w', Fr (fun _ => False) ρr ρr w1 w' → w'.cell? ⟨wr.heap.size, 2, none⟩ = some (.int .i64 o.lease) := fun w' h => h.cell (obj_cell T23 2) (fun e => e)
        obtain ⟨kc, wc, hcv, hBc, hltc, hkac⟩ := conv_key o.k w1.drew
        obtain ⟨kl, hkl⟩ : ∃ kl, kl = (keyS o.k).data.toList.length := ⟨_, rfl⟩
        rw [← hkl] at hcv hkac
        replace hcv : (convert 9 65 (.string (keyS o.k))).run Yba.prog w1.drew = .ok (.slice (some ⟨w1.heap.size, 0, none⟩) kl kc) wc := hcv
        replace hkac : KeyAt wc (.slice (some ⟨w1.heap.size, 0, none⟩) kl kc) o.k := hkac
        replace hBc : Below w1.heap.size w1 wc := ⟨hBc.os, hBc.tape, hBc.output, hBc.size, hBc.block⟩
        replace hltc : w1.heap.size < wc.heap.size := hltc
        have FC : Fr (fun _ => False) ρr ρr w1 wc := Fr.ofBelow hBc
        have S2 := St.keep S1 FC
        have R2 := Rows2.keep R1 FC
        have rkey : ρr w1.heap.size = 0 := (St.ix S1).tidy _ (Nat.le_refl _)
        obtain ⟨F5, F6, R6, ⟨AO, hAO, hAOs⟩, ⟨AV, hAV, hAVs⟩⟩ := Rows2.put R2 hlt ho hk5 hkd2 hkac (fun g hg => by
          have : g = w1.heap.size := by simpa [Value.ownBlock] using hg.symm
          rw [this]; exact ⟨hltc, rkey⟩)
        have st70 := st70_at hAO hAOs 2 o.lease w1.heap.size kl kc
        have st54 := st54_at hAV hAVs o.addr o.size o.sum
        obtain ⟨w5, hw5⟩ : ∃ w5, w5 = wc.setCells ob (i * 13) (opA 2 o.lease (.slice (some ⟨w1.heap.size, 0, none⟩) kl kc)).toList := ⟨_, rfl⟩
        rw [← hw5] at F5 F6 R6 st70 st54
        obtain ⟨w6, hw6⟩ : ∃ w6, w6 = w5.setCells vb (i * 19) (valA o.addr o.size o.sum).toList := ⟨_, rfl⟩
        rw [← hw6] at F6 R6 st54
        have S6 := S2.rows F6
        have T5 := F5.obj (FC.obj T23 (fun e => e)) (by rw [show ρr wr.heap.size = 0 from r23]; omega)
        have T6 := F6.obj (FC.obj T23 (fun e => e)) (by rw [show ρr wr.heap.size = 0 from r23]; omega)
        have c3 : w5.cell? ⟨wr.heap.size, 3, none⟩ = some (.int .i64 o.addr) := obj_cell T5 3
        have c4 : w5.cell? ⟨wr.heap.size, 4, none⟩ = some (.int .u32 o.size) := obj_cell T5 4
        have c5 : w5.cell? ⟨wr.heap.size, 5, none⟩ = some (.int .u32 o.sum) := obj_cell T5 5
        have c1 : w6.cell? ⟨wr.heap.size, 1, none⟩ = some (.bool true) := obj_cell T6 1
        have c2 : w6.cell? ⟨wr.heap.size, 2, none⟩ = some (.int .i64 o.lease) := obj_cell T6 2
        have t23l : wr.heap.size < w6.heap.size := obj_lt T6
        have l54 : ∀ o', (ldT 54 (.pointer (some ⟨vb, i * 19, none⟩))).run Yba.prog (w6.alloc o') = .ok (.agg (valA o.addr o.size o.sum)) (w6.alloc o') := fun o' => ld54_mid (((Fr.refl (fun _ => False) ρr w6).alloc o').range (by rw [show o = os i from ho]; exact R6.ops.val i (by omega)) (fun e => e)) rfl
        obtain ⟨vE, cE, fE, oE, gEr⟩ := S6.ex.cell hk5
        have hEl : EB < w6.heap.size := World.block_lt_of_cell? _ _ cE
        have hlenE : (Lrun L rev os i o.k).length ≤ 266240 := by
          have h1 := Lrun_len L rev os o.k i
          have h2 := hL o.k
          omega
        have hq1 : (Lrun L rev os i o.k).length + 1 ≤ maxLen := by unfold maxLen; omega
        have hq2 : ((Lrun L rev os i o.k).length + 1) * 72 ≤ 140737488355328 := by omega
        replace SF := hid SF
        replace hkl := hid hkl
        replace hBc := hid hBc
        replace hkac := hid hkac
        replace FC := hid FC
        replace S2 := hid S2
        replace R2 := hid R2
        replace rkey := hid rkey
        replace F5 := hid F5
        replace F6 := hid F6
        replace R6 := hid R6
        replace hAO := hid hAO
        replace hAOs := hid hAOs
        replace hAV := hid hAV
        replace hAVs := hid hAVs
        replace S6 := hid S6
        replace T5 := hid T5
        replace T6 := hid T6
        replace hw5 := hid hw5
        replace hw6 := hid hw6
        replace oE := hid oE
        replace gEr := hid gEr
        replace fE := hid fE
        replace hkd2 := hid hkd2
        replace hlenE := hid hlenE
        replace hw1 := hid hw1
        replace T23 := hid T23
        go_wp2
        rw [← hw1]
        clear m1 m2 m3 m4 m5
        have ka := hid (key_any o.k hk5)
        clear e0 e1 e2 e3 e4 e5 
        refine wp_region_noPanic (wp_region_N (fun w' => w'.cell? ⟨wr.heap.size, 2, none⟩ = some (.int .i64 o.lease)) 10 (by kernel_rfl) ?_)
        replace hS1 := hid hS1
        refine wpAnyN_take (i := 0) (v := .slice (some ⟨ob, 0, none⟩) n n) (by kernel_rfl) rfl (by kernel_rfl) (by kernel_rfl) (by kernel_rfl) (fun _ _ _ h => h) (by rfl) (fun w' hS => ?_) hS1 ?_
        · have s1 := hS
          go_simp
        simp only [Act.put, List.setIfInBounds_toArray, List.set_cons_zero, List.set_cons_succ]
        refine wpAnyN_take (i := 1) (v := .int .i64 i) (by kernel_rfl) rfl (by kernel_rfl) (by kernel_rfl) (by kernel_rfl) (fun _ _ _ h => h) (by rfl) (fun w' hS => ?_) hS1 ?_
        · have s1 := hS
          go_simp
        simp only [Act.put, List.setIfInBounds_toArray, List.set_cons_zero, List.set_cons_succ]
        refine wpAnyN_take (i := 2) (v := .int .u8 2) (by kernel_rfl) rfl (by kernel_rfl) (by kernel_rfl) (by kernel_rfl) (fun _ _ _ h => h) (by rfl) (fun w' hS => ?_) hS1 ?_
        · have s1 := hS
          go_simp
        simp only [Act.put, List.setIfInBounds_toArray, List.set_cons_zero, List.set_cons_succ]
        refine wpAnyN_take (i := 3) (v := .int .i64 o.k) (by kernel_rfl) rfl (by kernel_rfl) (by kernel_rfl) (by kernel_rfl) (fun _ _ _ h => h) (by rfl) (fun w' hS => ?_) hS1 ?_
        · have s1 := hS
          go_simp
        simp only [Act.put, List.setIfInBounds_toArray, List.set_cons_zero, List.set_cons_succ]
        refine wpAnyN_take (i := 6) (v := .pointer (some ⟨wr.heap.size, 2, none⟩)) (by kernel_rfl) rfl (by kernel_rfl) (by kernel_rfl) (by kernel_rfl) (fun _ _ _ h => h) (by rfl) (fun w' hS => ?_) hS1 ?_
        · have s1 := hS
          go_simp
        simp only [Act.put, List.setIfInBounds_toArray, List.set_cons_zero, List.set_cons_succ]
        refine wpAnyN_take (i := 7) (v := .int .i64 o.lease) (by kernel_rfl) rfl (by kernel_rfl) (by kernel_rfl) (by kernel_rfl) (fun _ _ _ h => h) (by rfl) (fun w' hS => ?_) hS1 ?_
        · have s1 := hS
          go_simp
        simp only [Act.put, List.setIfInBounds_toArray, List.set_cons_zero, List.set_cons_succ]
        refine wpAnyN_one (i := 4) (by kernel_rfl) rfl (by rfl) (fun K hK => ?_)
        go_simp
        refine Calls.mono (ka _) ?_
        rintro e w' ⟨rfl, hw'⟩
        rw [hw']
        refine hK.out _ _ (fun _ => hS1) ?_
        clear hK
        refine wpAnyN_one (i := 5) (by kernel_rfl) rfl (by rfl) (fun K hK => ?_)
        go_simp
        refine hK.out _ _ (fun _ => SF wc FC) ?_
        clear hK
        refine wpAnyN_one (i := 8) (by kernel_rfl) rfl (by rfl) (fun K hK => ?_)
        go_simp
        refine hK.out _ _ (fun _ => SF wc FC) ?_
        clear hK
        refine wpAnyN_one (i := 9) (by kernel_rfl) rfl (by rfl) (fun K hK => ?_)
        go_simp
        refine hK.out _ _ (fun _ => SF wc FC) ?_
        clear hK
        refine wpAnyN_one (i := 10) (by kernel_rfl) rfl (by rfl) (fun K hK => ?_)
        go_simp
        refine hK.out _ _ (fun h => absurd rfl h) ?_
        clear hK
        refine wpAnyN_done (by kernel_rfl) ?_ _
        refine NoPanic.normal ?_
        clear hcv
        go_wp2
        obtain ⟨ck, hck⟩ : ∃ ck, ck = nextC (Lrun L rev os i o.k) o.del rev i o.lease o.addr o.size o.sum := ⟨_, rfl⟩
        have hstep := stepL_is ho hck
        have hcc : ck.cells = (#[.int .i64 rev, .int .i64 (i : Int), .int .i64 0, .int .i64 0, .int .i64 0, .int .u32 0, .int .u32 0, .int .u8 0, .int .u8 0, .int .u8 0, .int .u8 0, .int .u8 0, .int .u8 0, .int .u8 0, .int .u8 0, .int .u8 0, .int .u8 0, .int .u8 0, .int .u8 0, .int .u8 0, .int .u8 0, .int .u8 0, .int .u8 0, .int .i64 0] : Array Value).toList := by
          rw [hck, hdel]
          rfl
        obtain ⟨w8, hw8⟩ : ∃ w8, w8 = w6.alloc (.cells #[.int .i64 rev, .int .i64 (i : Int), .int .i64 0, .int .i64 0, .int .i64 0, .int .u32 0, .int .u32 0, .int .u8 0, .int .u8 0, .int .u8 0, .int .u8 0, .int .u8 0, .int .u8 0, .int .u8 0, .int .u8 0, .int .u8 0, .int .u8 0, .int .u8 0, .int .u8 0, .int .u8 0, .int .u8 0, .int .u8 0, .int .u8 0, .int .i64 0] 56) := ⟨_, rfl⟩
        rw [← hw8]
        have F8 : Fr (fun _ => False) ρr ρr w6 w8 := by rw [hw8]; exact (Fr.refl _ ρr w6).alloc _
        have S8 := St.keep S6 F8
        have R8 := Rows2.keep R6 F8
        have T26 : objAt w8 w6.heap.size = some (.cells #[.int .i64 rev, .int .i64 (i : Int), .int .i64 0, .int .i64 0, .int .i64 0, .int .u32 0, .int .u32 0, .int .u8 0, .int .u8 0, .int .u8 0, .int .u8 0, .int .u8 0, .int .u8 0, .int .u8 0, .int .u8 0, .int .u8 0, .int .u8 0, .int .u8 0, .int .u8 0, .int .u8 0, .int .u8 0, .int .u8 0, .int .u8 0, .int .i64 0] 56 (0, 0)) := by rw [hw8]; exact heapN _ _ _ rfl
        have r26 : ρr w6.heap.size = 0 := (St.ix S6).tidy _ (Nat.le_refl _)
        have cE8 : w8.cell? ⟨EB, o.k, none⟩ = some vE := F8.cell cE (fun e => e)
        have hS8 : w8.drew.cell? ⟨EB, o.k, none⟩ = some vE ∧ objAt w8.drew w6.heap.size = some (.cells #[.int .i64 rev, .int .i64 (i : Int), .int .i64 0, .int .i64 0, .int .i64 0, .int .u32 0, .int .u32 0, .int .u8 0, .int .u8 0, .int .u8 0, .int .u8 0, .int .u8 0, .int .u8 0, .int .u8 0, .int .u8 0, .int .u8 0, .int .u8 0, .int .u8 0, .int .u8 0, .int .u8 0, .int .u8 0, .int .u8 0, .int .u8 0, .int .i64 0] 56 (0, 0)) := ⟨cE8, T26⟩
        have rE8 : ρr EB = 1 := S8.ex.rE
        have SG : ∀ w', Fr (fun r => r = 10 + o.k) ρr ρr w8 w' → w'.cell? ⟨EB, o.k, none⟩ = some vE ∧ objAt w' w6.heap.size = some (.cells #[.int .i64 rev, .int .i64 (i : Int), .int .i64 0, .int .i64 0, .int .i64 0, .int .u32 0, .int .u32 0, .int .u8 0, .int .u8 0, .int .u8 0, .int .u8 0, .int .u8 0, .int .u8 0, .int .u8 0, .int .u8 0, .int .u8 0, .int .u8 0, .int .u8 0, .int .u8 0, .int .u8 0, .int .u8 0, .int .u8 0, .int .u8 0, .int .i64 0] 56 (0, 0)) := fun w' h => ⟨h.cell cE8 (by show ¬ (ρr EB = 10 + o.k); rw [rE8]; omega), h.obj T26 (by rw [r26]; omega)⟩
        clear c1 c2 c3 c4 c5 l54 st54 st70 cE t23l hEl 
        replace hck := hid hck
        replace hstep := hid hstep
        replace hcc := hid hcc
        replace F8 := hid F8
        replace S8 := hid S8
        replace R8 := hid R8
        replace T26 := hid T26
        replace r26 := hid r26
        replace cE8 := hid cE8
        replace rE8 := hid rE8
        replace SG := hid SG
        replace hw8 := hid hw8
        refine wp_region_noPanic (wp_region_N (fun w' => w'.cell? ⟨EB, o.k, none⟩ = some vE ∧ objAt w' w6.heap.size = some (.cells #[.int .i64 rev, .int .i64 (i : Int), .int .i64 0, .int .i64 0, .int .i64 0, .int .u32 0, .int .u32 0, .int .u8 0, .int .u8 0, .int .u8 0, .int .u8 0, .int .u8 0, .int .u8 0, .int .u8 0, .int .u8 0, .int .u8 0, .int .u8 0, .int .u8 0, .int .u8 0, .int .u8 0, .int .u8 0, .int .u8 0, .int .u8 0, .int .i64 0] 56 (0, 0))) 8 (by kernel_rfl) ?_)
        replace hS8 := hid hS8
        refine wpAnyN_take (i := 0) (v := .int .i64 (o.k : Int)) (by kernel_rfl) rfl (by kernel_rfl) (by kernel_rfl) (by kernel_rfl) (fun _ _ _ h => h) (by rfl) (fun w' hS => ?_) hS8 ?_
        · obtain ⟨s1, s2⟩ := hS
          go_simp
        simp only [Act.put, List.setIfInBounds_toArray, List.set_cons_zero, List.set_cons_succ]
        refine wpAnyN_take (i := 1) (v := .int .i64 (o.k : Int)) (by kernel_rfl) rfl (by kernel_rfl) (by kernel_rfl) (by kernel_rfl) (fun _ _ _ h => h) (by rfl) (fun w' hS => ?_) hS8 ?_
        · obtain ⟨s1, s2⟩ := hS
          go_simp
        simp only [Act.put, List.setIfInBounds_toArray, List.set_cons_zero, List.set_cons_succ]
        refine wpAnyN_take (i := 2) (v := .pointer (some ⟨EB, o.k, none⟩)) (by kernel_rfl) rfl (by kernel_rfl) (by kernel_rfl) (by kernel_rfl) (fun _ _ _ h => h) (by rfl) (fun w' hS => ?_) hS8 ?_
        · obtain ⟨s1, s2⟩ := hS
          go_simp
        simp only [Act.put, List.setIfInBounds_toArray, List.set_cons_zero, List.set_cons_succ]
        refine wpAnyN_take (i := 3) (v := vE) (by kernel_rfl) rfl (by kernel_rfl) (by kernel_rfl) (by kernel_rfl) (fun _ _ _ h => h) (by rfl) (fun w' hS => ?_) hS8 ?_
        · obtain ⟨s1, s2⟩ := hS
          go_simp
        simp only [Act.put, List.setIfInBounds_toArray, List.set_cons_zero, List.set_cons_succ]
        refine wpAnyN_take (i := 4) (v := .agg #[.int .i64 rev, .int .i64 (i : Int), .int .i64 0, .int .i64 0, .int .i64 0, .int .u32 0, .int .u32 0, .int .u8 0, .int .u8 0, .int .u8 0, .int .u8 0, .int .u8 0, .int .u8 0, .int .u8 0, .int .u8 0, .int .u8 0, .int .u8 0, .int .u8 0, .int .u8 0, .int .u8 0, .int .u8 0, .int .u8 0, .int .u8 0, .int .i64 0]) (by kernel_rfl) rfl (by kernel_rfl) (by kernel_rfl) (by kernel_rfl) (fun _ _ _ h => h) (by rfl) (fun w' hS => ?_) hS8 ?_
        · obtain ⟨s1, s2⟩ := hS
          go_simp
        simp only [Act.put, List.setIfInBounds_toArray, List.set_cons_zero, List.set_cons_succ]
        refine wpAnyN_one (i := 5) (by kernel_rfl) rfl (by rfl) (fun K hK => ?_)
        go_simp
        obtain ⟨w8a, hw8a⟩ : ∃ w8a, w8a = w8.alloc (.cells #[.int .i64 rev, .int .i64 (i : Int), .int .i64 0, .int .i64 0, .int .i64 0, .int .u32 0, .int .u32 0, .int .u8 0, .int .u8 0, .int .u8 0, .int .u8 0, .int .u8 0, .int .u8 0, .int .u8 0, .int .u8 0, .int .u8 0, .int .u8 0, .int .u8 0, .int .u8 0, .int .u8 0, .int .u8 0, .int .u8 0, .int .u8 0, .int .i64 0] 56) := ⟨_, rfl⟩
        obtain ⟨w8b, hw8b⟩ : ∃ w8b, w8b = w8a.drew := ⟨_, rfl⟩
        have F8a : Fr (fun _ => False) ρr ρr w8 w8b := by rw [hw8b, hw8a]; exact ((Fr.refl _ ρr w8).alloc _).drew
        rw [← hw8a, ← hw8b]
        refine hK.out _ _ (fun _ => SG w8b (F8a.mono (fun _ e => e.elim))) ?_
        clear hK
        refine wpAnyN_one (i := 6) (by kernel_rfl) rfl (by rfl) (fun K hK => ?_)
        have hown8 : w8b.ownsRow 0 56 24 vE (Lrun L rev os i o.k).length (chgs (Lrun L rev os i o.k)) := F8a.owns (Fr.owns F8 oE (fun _ _ e => e)) (fun _ _ e => e)
        have hsz8 : w8b.heap.size = w8.heap.size + 1 := by rw [hw8b, hw8a]; simp
        refine wp_append_lies w8b (.tmp 225) (.tmp 227) 38 (by rfl) 0 56 i56 (.agg (chgA 0 0 0 0 0 0 0 0)) 24 72 Yba.underlying38 hi56 hd0 hd1 hd2 rfl (by decide) vE (Lrun L rev os i o.k).length (chgs (Lrun L rev os i o.k)) (by rfl) hown8 ⟨w8.heap.size, 0, none⟩ 1 1 ck.cells (by rfl) rfl ?_ ck.one (by decide) hq1 hq2 (Nat.zero_le _) (w8.heap.size + 1) hsz8 ?_
        · rw [show ck.cells = _ from hcc]
          exact World.news_of_block (by rw [hw8b, hw8a]; exact heapN _ _ _ rfl)
        intro g9 cap9 w9 hown9 hgr9 hat9 hlt9
        have F9 : Fr (fun r => r = 10 + o.k) ρr ρr w8 w9 := (F8a.mono (fun _ e => e.elim)).grown hgr9 (fun g e => gEr g e)
        refine hK.out _ _ (fun _ => SG w9 F9) ?_
        clear hK
        simp only [Act.put, List.setIfInBounds_toArray, List.set_cons_zero, List.set_cons_succ]
        have S8b := St.keep S8 F8a
        have R8b := Rows2.keep R8 F8a
        have cEb : w8b.cell? ⟨EB, o.k, none⟩ = some vE := F8a.cell cE8 (fun e => e)
        have y1 : w9.cell? ⟨EB, o.k, none⟩ = some vE := (SG w9 F9).1
        have y2 : w9.frozen? ⟨EB, o.k, none⟩ = false := by
          obtain ⟨V, hob, _⟩ := (St.ex S8).ex
          exact obj_frozen (F9.obj hob (by rw [show ρr EB = 1 from rE8]; omega)) _
        obtain ⟨F10, E10⟩ := Ex.push (c := ck) S8b.ex hk5 cEb hgr9 hown9 (_root_.Or.imp id (fun e => by rw [hsz8]; exact Nat.le_of_eq e.symm) hat9) hlt9
        obtain ⟨w10, hw10⟩ : ∃ w10, w10 = w9.setCell ⟨EB, o.k, none⟩ (.slice (some ⟨g9, 0, none⟩) ((Lrun L rev os i o.k).length + 1) cap9) := ⟨_, rfl⟩
        obtain ⟨ρ10, hρ10⟩ : ∃ ρ10, ρ10 = upd ρr g9 (10 + o.k) := ⟨_, rfl⟩
        rw [← hw10, ← hρ10] at F10 E10
        rw [show (fun j => if j = o.k then Lrun L rev os i o.k ++ [ck] else Lrun L rev os i j) = Lrun L rev os (i + 1) from hstep] at E10
        have S10 := S8b.ex' hk5 F10 E10
        have R10 := R8b.fr F10 (by omega) (by omega) (by omega)
        have T26b : objAt w8b w6.heap.size = some (.cells #[.int .i64 rev, .int .i64 (i : Int), .int .i64 0, .int .i64 0, .int .i64 0, .int .u32 0, .int .u32 0, .int .u8 0, .int .u8 0, .int .u8 0, .int .u8 0, .int .u8 0, .int .u8 0, .int .u8 0, .int .u8 0, .int .u8 0, .int .u8 0, .int .u8 0, .int .u8 0, .int .u8 0, .int .u8 0, .int .u8 0, .int .u8 0, .int .i64 0] 56 (0, 0)) := F8a.obj T26 (fun e => e)
        have T10 : objAt w10 w6.heap.size = some (.cells #[.int .i64 rev, .int .i64 (i : Int), .int .i64 0, .int .i64 0, .int .i64 0, .int .u32 0, .int .u32 0, .int .u8 0, .int .u8 0, .int .u8 0, .int .u8 0, .int .u8 0, .int .u8 0, .int .u8 0, .int .u8 0, .int .u8 0, .int .u8 0, .int .u8 0, .int .u8 0, .int .u8 0, .int .u8 0, .int .u8 0, .int .u8 0, .int .i64 0] 56 (0, 0)) := F10.obj T26b (by rw [show ρr w6.heap.size = 0 from r26]; omega)
        have r10 : ρ10 w6.heap.size = 0 := (F10.role _ (obj_lt T26b)).trans r26
        have hnk : (rs ++ opRks rev os i).length = rs.length + i := by rw [List.length_append, opRks_length]
        obtain ⟨nk, hnke⟩ : ∃ nk, nk = rs.length + i := ⟨_, rfl⟩
        rw [← hnke] at hnk
        have hnkb : nk ≤ 266240 := by have h1 : rs.length ≤ 4096 := hrs; omega
        have q21 : nk + 1 ≤ maxLen := by unfold maxLen; omega
        have q22 : (nk + 1) * 8 ≤ 140737488355328 := by omega
        have q23 : (nk + 1) * 16 ≤ 140737488355328 := by omega
        have hown21 : ∀ o', Hid ((w10.alloc o').ownsRow 0 3 1 u11 nk (keysOf (rs ++ opRks rev os i))) := fun o' => by
          have h := (St.pk S10).alloc o'
          rw [hnk] at h
          exact h
        replace hown9 := hid hown9
        replace hgr9 := hid hgr9
        replace hat9 := hid hat9
        replace F9 := hid F9
        replace F8a := hid F8a
        replace hown8 := hid hown8
        replace hsz8 := hid hsz8
        replace S8b := hid S8b
        replace R8b := hid R8b
        replace F10 := hid F10
        replace E10 := hid E10
        replace S10 := hid S10
        replace R10 := hid R10
        replace T26b := hid T26b
        replace T10 := hid T10
        replace r10 := hid r10
        replace hw10 := hid hw10
        replace hρ10 := hid hρ10
        replace hnk := hid hnk
        replace hnke := hid hnke
        replace hw8a := hid hw8a
        replace hw8b := hid hw8b
        replace cEb := hid cEb
        refine wpAnyN_one (i := 7) (by kernel_rfl) rfl (by rfl) (fun K hK => ?_)
        go_simp
        refine hK.out _ _ (fun _ => SG w9 F9) ?_
        clear hK
        refine wpAnyN_one (i := 8) (by kernel_rfl) rfl (by rfl) (fun K hK => ?_)
        go_simp
        refine hK.out _ _ (fun h => absurd rfl h) ?_
        clear hK
        refine wpAnyN_done (by kernel_rfl) ?_ _
        refine NoPanic.normal ?_
        rw [← hw10]
        clear y1 y2
        go_wp2_with (first
          | (at_builtin; refine wpList_append_lies _ (by rfl) (.tmp 230) (.tmp 232) 40 (by rfl) 0 3 i3 (.int .i64 0) 1 8 Yba.underlying40 hi3 hb0 hb1 hb2 rfl (by decide) u11 nk (keysOf (rs ++ opRks rev os i)) (by rfl) (hown21 _) ⟨w10.heap.size, 0, none⟩ 1 1 [.int .i64 (o.k : Int)] (by rfl) (by rfl) (World.news_of_block (heapN _ _ _ (by simp))) (by intro u hu; simp at hu; subst hu; rfl) (by decide) q21 q22 (Nat.zero_le _) (w10.heap.size + 1) (by simp) ?_; intro g11 cap11 w11 hown11 hgr11 hat11 hlt11
             obtain ⟨w10a, hw10a⟩ : ∃ w10a, w10a = w10.alloc (.cells #[.int .i64 (o.k : Int)] 3) := ⟨_, rfl⟩
             have F10a : Fr (fun _ => False) ρ10 ρ10 w10 w10a := (by rw [hw10a]; exact (Fr.refl _ ρ10 w10).alloc _)
             have hz10 : w10a.heap.size = w10.heap.size + 1 := (by rw [hw10a]; simp)
             rw [← hw10a] at hgr11
             obtain ⟨F11, S11⟩ := St.pushK (r := ⟨rev, (i : Int), o.k⟩) (St.keep S10 F10a) hgr11 (by rw [show (rs ++ opRks rev os i).length = nk from hnk]; exact hown11) (_root_.Or.imp id (fun e => by rw [hz10]; exact Nat.le_of_eq e.symm) hat11) hlt11
             have R11 := Rows2.fr (Rows2.keep R10 F10a) F11 (by omega) (by omega) (by omega)
             have T11 := F11.obj (F10a.obj T10 (fun e => e)) (by rw [show ρ10 w6.heap.size = 0 from r10]; omega)
             have b0 : w11.cell? ⟨w6.heap.size, 0, none⟩ = some (.int .i64 rev) := obj_cell T11 0
             have b1 : w11.cell? ⟨w6.heap.size, 1, none⟩ = some (.int .i64 (i : Int)) := obj_cell T11 1
             have hown22 : ∀ o', Hid ((w11.alloc o').ownsRow 0 49 2 u12 nk (revsOf (rs ++ opRks rev os i))) := (fun o' => by
               have h := (St.pr S11).alloc o'
               rw [show (rs ++ opRks rev os i).length = nk from hnk] at h
               exact h)
             replace hw10a := hid hw10a
             replace F10a := hid F10a
             replace hz10 := hid hz10
             replace hgr11 := hid hgr11
             replace F11 := hid F11
             replace S11 := hid S11
             replace R11 := hid R11
             replace T11 := hid T11
             replace hown11 := hid hown11
             replace hat11 := hid hat11)
          | (at_builtin; refine wpList_append_lies _ (by rfl) (.tmp 234) (.tmp 237) 41 (by rfl) 0 49 i49 (.agg #[.int .i64 0, .int .i64 0]) 2 16 Yba.underlying41 hi49 hc0 hc1 hc2 rfl (by decide) u12 nk (revsOf (rs ++ opRks rev os i)) (by rfl) (hown22 _) ⟨w11.heap.size, 0, none⟩ 1 1 [.int .i64 rev, .int .i64 (i : Int)] (by rfl) (by rfl) (World.news_of_block (heapN _ _ _ (by simp))) (by intro u hu; simp at hu; rcases hu with rfl | rfl <;> rfl) (by decide) q21 q23 (Nat.zero_le _) (w11.heap.size + 1) (by simp) ?_; intro g12 cap12 w12 hown12 hgr12 hat12 hlt12
             obtain ⟨w11a, hw11a⟩ : ∃ w11a, w11a = w11.alloc (.cells #[.int .i64 rev, .int .i64 (i : Int)] 49) := ⟨_, rfl⟩
             have F11a : Fr (fun _ => False) (upd ρ10 g11 3) (upd ρ10 g11 3) w11 w11a := (by rw [hw11a]; exact (Fr.refl _ _ w11).alloc _)
             have hz11 : w11a.heap.size = w11.heap.size + 1 := (by rw [hw11a]; simp)
             rw [← hw11a] at hgr12
             obtain ⟨F12, S12⟩ := St.pushR (r := ⟨rev, (i : Int), o.k⟩) (St.keep S11 F11a) hgr12 (by rw [show (rs ++ opRks rev os i).length = nk from hnk]; exact hown12) (_root_.Or.imp id (fun e => by rw [hz11]; exact Nat.le_of_eq e.symm) hat12) hlt12
             have R12 := Rows2.fr (Rows2.keep R11 F11a) F12 (by omega) (by omega) (by omega)
             replace S12 := hid S12
             replace R12 := hid R12
             clear F12 hown12 hgr12 hat12 F11a hz11 hw11a))
        have S12' := S12
        rw [show (rs ++ opRks rev os i).length = nk from hnk, show rs ++ opRks rev os i ++ [⟨rev, (i : Int), o.k⟩] = rs ++ opRks rev os (i + 1) from by rw [List.append_assoc, show o = os i from ho]; rfl] at S12'
        have R12' : Rows2 w12 _ ob vb n (i + 1) os := R12
        refine ⟨⟨i + 1, _, hlt, by simp, ⟨S12', R12'⟩⟩, ?_⟩
        simp [intOf]
        omega
      | false =>
        rw [hdel] at e1 hw1 T23
        have hkd2 : ((1 : Int)) = (if o.del then 2 else 1) := by rw [hdel]; rfl
        have hS1 : w1.drew.cell? ⟨wr.heap.size, 2, none⟩ = some (.int .i64 o.lease) := obj_cell T23 2
        have SF : ∀ w', Fr (fun _ => False) ρr ρr w1 w' → w'.cell? ⟨wr.heap.size, 2, none⟩ = some (.int .i64 o.lease) := fun w' h => h.cell (obj_cell T23 2) (fun e => e)
        obtain ⟨kc, wc, hcv, hBc, hltc, hkac⟩ := conv_key o.k w1.drew
        obtain ⟨kl, hkl⟩ : ∃ kl, kl = (keyS o.k).data.toList.length := ⟨_, rfl⟩
        rw [← hkl] at hcv hkac
        replace hcv : (convert 9 65 (.string (keyS o.k))).run Yba.prog w1.drew = .ok (.slice (some ⟨w1.heap.size, 0, none⟩) kl kc) wc := hcv
        replace hkac : KeyAt wc (.slice (some ⟨w1.heap.size, 0, none⟩) kl kc) o.k := hkac
        replace hBc : Below w1.heap.size w1 wc := ⟨hBc.os, hBc.tape, hBc.output, hBc.size, hBc.block⟩
        replace hltc : w1.heap.size < wc.heap.size := hltc
        have FC : Fr (fun _ => False) ρr ρr w1 wc := Fr.ofBelow hBc
        have S2 := St.keep S1 FC
        have R2 := Rows2.keep R1 FC
        have rkey : ρr w1.heap.size = 0 := (St.ix S1).tidy _ (Nat.le_refl _)
        obtain ⟨F5, F6, R6, ⟨AO, hAO, hAOs⟩, ⟨AV, hAV, hAVs⟩⟩ := Rows2.put R2 hlt ho hk5 hkd2 hkac (fun g hg => by
          have : g = w1.heap.size := by simpa [Value.ownBlock] using hg.symm
          rw [this]; exact ⟨hltc, rkey⟩)
        have st70 := st70_at hAO hAOs 1 o.lease w1.heap.size kl kc
        have st54 := st54_at hAV hAVs o.addr o.size o.sum
        obtain ⟨w5, hw5⟩ : ∃ w5, w5 = wc.setCells ob (i * 13) (opA 1 o.lease (.slice (some ⟨w1.heap.size, 0, none⟩) kl kc)).toList := ⟨_, rfl⟩
        rw [← hw5] at F5 F6 R6 st70 st54
        obtain ⟨w6, hw6⟩ : ∃ w6, w6 = w5.setCells vb (i * 19) (valA o.addr o.size o.sum).toList := ⟨_, rfl⟩
        rw [← hw6] at F6 R6 st54
        have S6 := S2.rows F6
        have T5 := F5.obj (FC.obj T23 (fun e => e)) (by rw [show ρr wr.heap.size = 0 from r23]; omega)
        have T6 := F6.obj (FC.obj T23 (fun e => e)) (by rw [show ρr wr.heap.size = 0 from r23]; omega)
        have c3 : w5.cell? ⟨wr.heap.size, 3, none⟩ = some (.int .i64 o.addr) := obj_cell T5 3
        have c4 : w5.cell? ⟨wr.heap.size, 4, none⟩ = some (.int .u32 o.size) := obj_cell T5 4
        have c5 : w5.cell? ⟨wr.heap.size, 5, none⟩ = some (.int .u32 o.sum) := obj_cell T5 5
        have c1 : w6.cell? ⟨wr.heap.size, 1, none⟩ = some (.bool false) := obj_cell T6 1
        have c2 : w6.cell? ⟨wr.heap.size, 2, none⟩ = some (.int .i64 o.lease) := obj_cell T6 2
        have t23l : wr.heap.size < w6.heap.size := obj_lt T6
        have l54 : ∀ o', (ldT 54 (.pointer (some ⟨vb, i * 19, none⟩))).run Yba.prog (w6.alloc o') = .ok (.agg (valA o.addr o.size o.sum)) (w6.alloc o') := fun o' => ld54_mid (((Fr.refl (fun _ => False) ρr w6).alloc o').range (by rw [show o = os i from ho]; exact R6.ops.val i (by omega)) (fun e => e)) rfl
        obtain ⟨vE, cE, fE, oE, gEr⟩ := S6.ex.cell hk5
        have hEl : EB < w6.heap.size := World.block_lt_of_cell? _ _ cE
        have hlenE : (Lrun L rev os i o.k).length ≤ 266240 := by
          have h1 := Lrun_len L rev os o.k i
          have h2 := hL o.k
          omega
        have hq1 : (Lrun L rev os i o.k).length + 1 ≤ maxLen := by unfold maxLen; omega
        have hq2 : ((Lrun L rev os i o.k).length + 1) * 72 ≤ 140737488355328 := by omega
        replace SF := hid SF
        replace hkl := hid hkl
        replace hBc := hid hBc
        replace hkac := hid hkac
        replace FC := hid FC
        replace S2 := hid S2
        replace R2 := hid R2
        replace rkey := hid rkey
        replace F5 := hid F5
        replace F6 := hid F6
        replace R6 := hid R6
        replace hAO := hid hAO
        replace hAOs := hid hAOs
        replace hAV := hid hAV
        replace hAVs := hid hAVs
        replace S6 := hid S6
        replace T5 := hid T5
        replace T6 := hid T6
        replace hw5 := hid hw5
        replace hw6 := hid hw6
        replace oE := hid oE
        replace gEr := hid gEr
        replace fE := hid fE
        replace hkd2 := hid hkd2
        replace hlenE := hid hlenE
        rcases eq_nil_or_snoc (Lrun L rev os i o.k) with hnil | ⟨l, cl, hcat⟩
        · obtain ⟨ao, cp, hvE⟩ := form_any oE
          rw [hnil] at hvE
          have cEs : w6.cell? ⟨EB, o.k, none⟩ = some (.slice ao 0 cp) := by rw [cE, hvE]; rfl
          replace cE := hid cE
          replace hvE := hid hvE
          replace hnil := hid hnil
          replace hw1 := hid hw1
          replace T23 := hid T23
          go_wp2
          rw [← hw1]
          clear m1 m2 m3 m4 m5
          have ka := hid (key_any o.k hk5)
          clear e0 e1 e2 e3 e4 e5 
          refine wp_region_noPanic (wp_region_N (fun w' => w'.cell? ⟨wr.heap.size, 2, none⟩ = some (.int .i64 o.lease)) 10 (by kernel_rfl) ?_)
          replace hS1 := hid hS1
          refine wpAnyN_take (i := 0) (v := .slice (some ⟨ob, 0, none⟩) n n) (by kernel_rfl) rfl (by kernel_rfl) (by kernel_rfl) (by kernel_rfl) (fun _ _ _ h => h) (by rfl) (fun w' hS => ?_) hS1 ?_
          · have s1 := hS
            go_simp
          simp only [Act.put, List.setIfInBounds_toArray, List.set_cons_zero, List.set_cons_succ]
          refine wpAnyN_take (i := 1) (v := .int .i64 i) (by kernel_rfl) rfl (by kernel_rfl) (by kernel_rfl) (by kernel_rfl) (fun _ _ _ h => h) (by rfl) (fun w' hS => ?_) hS1 ?_
          · have s1 := hS
            go_simp
          simp only [Act.put, List.setIfInBounds_toArray, List.set_cons_zero, List.set_cons_succ]
          refine wpAnyN_take (i := 2) (v := .int .u8 1) (by kernel_rfl) rfl (by kernel_rfl) (by kernel_rfl) (by kernel_rfl) (fun _ _ _ h => h) (by rfl) (fun w' hS => ?_) hS1 ?_
          · have s1 := hS
            go_simp
          simp only [Act.put, List.setIfInBounds_toArray, List.set_cons_zero, List.set_cons_succ]
          refine wpAnyN_take (i := 3) (v := .int .i64 o.k) (by kernel_rfl) rfl (by kernel_rfl) (by kernel_rfl) (by kernel_rfl) (fun _ _ _ h => h) (by rfl) (fun w' hS => ?_) hS1 ?_
          · have s1 := hS
            go_simp
          simp only [Act.put, List.setIfInBounds_toArray, List.set_cons_zero, List.set_cons_succ]
          refine wpAnyN_take (i := 6) (v := .pointer (some ⟨wr.heap.size, 2, none⟩)) (by kernel_rfl) rfl (by kernel_rfl) (by kernel_rfl) (by kernel_rfl) (fun _ _ _ h => h) (by rfl) (fun w' hS => ?_) hS1 ?_
          · have s1 := hS
            go_simp
          simp only [Act.put, List.setIfInBounds_toArray, List.set_cons_zero, List.set_cons_succ]
          refine wpAnyN_take (i := 7) (v := .int .i64 o.lease) (by kernel_rfl) rfl (by kernel_rfl) (by kernel_rfl) (by kernel_rfl) (fun _ _ _ h => h) (by rfl) (fun w' hS => ?_) hS1 ?_
          · have s1 := hS
            go_simp
          simp only [Act.put, List.setIfInBounds_toArray, List.set_cons_zero, List.set_cons_succ]
          refine wpAnyN_one (i := 4) (by kernel_rfl) rfl (by rfl) (fun K hK => ?_)
          go_simp
          refine Calls.mono (ka _) ?_
          rintro e w' ⟨rfl, hw'⟩
          rw [hw']
          refine hK.out _ _ (fun _ => hS1) ?_
          clear hK
          refine wpAnyN_one (i := 5) (by kernel_rfl) rfl (by rfl) (fun K hK => ?_)
          go_simp
          refine hK.out _ _ (fun _ => SF wc FC) ?_
          clear hK
          refine wpAnyN_one (i := 8) (by kernel_rfl) rfl (by rfl) (fun K hK => ?_)
          go_simp
          refine hK.out _ _ (fun _ => SF wc FC) ?_
          clear hK
          refine wpAnyN_one (i := 9) (by kernel_rfl) rfl (by rfl) (fun K hK => ?_)
          go_simp
          refine hK.out _ _ (fun _ => SF wc FC) ?_
          clear hK
          refine wpAnyN_one (i := 10) (by kernel_rfl) rfl (by rfl) (fun K hK => ?_)
          go_simp
          refine hK.out _ _ (fun h => absurd rfl h) ?_
          clear hK
          refine wpAnyN_done (by kernel_rfl) ?_ _
          refine NoPanic.normal ?_
          clear hcv
          go_wp2
          obtain ⟨ck, hck⟩ : ∃ ck, ck = nextC (Lrun L rev os i o.k) o.del rev i o.lease o.addr o.size o.sum := ⟨_, rfl⟩
          have hstep := stepL_is ho hck
          have hcc : ck.cells = (#[.int .i64 rev, .int .i64 (i : Int), .int .i64 rev, .int .i64 1, .int .i64 o.addr, .int .u32 o.size, .int .u32 o.sum, .int .u8 0, .int .u8 0, .int .u8 0, .int .u8 0, .int .u8 0, .int .u8 0, .int .u8 0, .int .u8 0, .int .u8 0, .int .u8 0, .int .u8 0, .int .u8 0, .int .u8 0, .int .u8 0, .int .u8 0, .int .u8 0, .int .i64 o.lease] : Array Value).toList := by
            rw [hck, hdel, show Lrun L rev os i o.k = [] from hnil]
            rfl
          obtain ⟨w8, hw8⟩ : ∃ w8, w8 = w6.alloc (.cells #[.int .i64 rev, .int .i64 (i : Int), .int .i64 rev, .int .i64 1, .int .i64 o.addr, .int .u32 o.size, .int .u32 o.sum, .int .u8 0, .int .u8 0, .int .u8 0, .int .u8 0, .int .u8 0, .int .u8 0, .int .u8 0, .int .u8 0, .int .u8 0, .int .u8 0, .int .u8 0, .int .u8 0, .int .u8 0, .int .u8 0, .int .u8 0, .int .u8 0, .int .i64 o.lease] 56) := ⟨_, rfl⟩
          rw [← hw8]
          have F8 : Fr (fun _ => False) ρr ρr w6 w8 := by rw [hw8]; exact (Fr.refl _ ρr w6).alloc _
          have S8 := St.keep S6 F8
          have R8 := Rows2.keep R6 F8
          have T26 : objAt w8 w6.heap.size = some (.cells #[.int .i64 rev, .int .i64 (i : Int), .int .i64 rev, .int .i64 1, .int .i64 o.addr, .int .u32 o.size, .int .u32 o.sum, .int .u8 0, .int .u8 0, .int .u8 0, .int .u8 0, .int .u8 0, .int .u8 0, .int .u8 0, .int .u8 0, .int .u8 0, .int .u8 0, .int .u8 0, .int .u8 0, .int .u8 0, .int .u8 0, .int .u8 0, .int .u8 0, .int .i64 o.lease] 56 (0, 0)) := by rw [hw8]; exact heapN _ _ _ rfl
          have r26 : ρr w6.heap.size = 0 := (St.ix S6).tidy _ (Nat.le_refl _)
          have cE8 : w8.cell? ⟨EB, o.k, none⟩ = some vE := F8.cell cE (fun e => e)
          have hS8 : w8.drew.cell? ⟨EB, o.k, none⟩ = some vE ∧ objAt w8.drew w6.heap.size = some (.cells #[.int .i64 rev, .int .i64 (i : Int), .int .i64 rev, .int .i64 1, .int .i64 o.addr, .int .u32 o.size, .int .u32 o.sum, .int .u8 0, .int .u8 0, .int .u8 0, .int .u8 0, .int .u8 0, .int .u8 0, .int .u8 0, .int .u8 0, .int .u8 0, .int .u8 0, .int .u8 0, .int .u8 0, .int .u8 0, .int .u8 0, .int .u8 0, .int .u8 0, .int .i64 o.lease] 56 (0, 0)) := ⟨cE8, T26⟩
          have rE8 : ρr EB = 1 := S8.ex.rE
          have SG : ∀ w', Fr (fun r => r = 10 + o.k) ρr ρr w8 w' → w'.cell? ⟨EB, o.k, none⟩ = some vE ∧ objAt w' w6.heap.size = some (.cells #[.int .i64 rev, .int .i64 (i : Int), .int .i64 rev, .int .i64 1, .int .i64 o.addr, .int .u32 o.size, .int .u32 o.sum, .int .u8 0, .int .u8 0, .int .u8 0, .int .u8 0, .int .u8 0, .int .u8 0, .int .u8 0, .int .u8 0, .int .u8 0, .int .u8 0, .int .u8 0, .int .u8 0, .int .u8 0, .int .u8 0, .int .u8 0, .int .u8 0, .int .i64 o.lease] 56 (0, 0)) := fun w' h => ⟨h.cell cE8 (by show ¬ (ρr EB = 10 + o.k); rw [rE8]; omega), h.obj T26 (by rw [r26]; omega)⟩
          clear c1 c2 c3 c4 c5 l54 st54 st70 cE t23l hEl cEs
          replace hck := hid hck
          replace hstep := hid hstep
          replace hcc := hid hcc
          replace F8 := hid F8
          replace S8 := hid S8
          replace R8 := hid R8
          replace T26 := hid T26
          replace r26 := hid r26
          replace cE8 := hid cE8
          replace rE8 := hid rE8
          replace SG := hid SG
          replace hw8 := hid hw8
          refine wp_region_noPanic (wp_region_N (fun w' => w'.cell? ⟨EB, o.k, none⟩ = some vE ∧ objAt w' w6.heap.size = some (.cells #[.int .i64 rev, .int .i64 (i : Int), .int .i64 rev, .int .i64 1, .int .i64 o.addr, .int .u32 o.size, .int .u32 o.sum, .int .u8 0, .int .u8 0, .int .u8 0, .int .u8 0, .int .u8 0, .int .u8 0, .int .u8 0, .int .u8 0, .int .u8 0, .int .u8 0, .int .u8 0, .int .u8 0, .int .u8 0, .int .u8 0, .int .u8 0, .int .u8 0, .int .i64 o.lease] 56 (0, 0))) 8 (by kernel_rfl) ?_)
          replace hS8 := hid hS8
          refine wpAnyN_take (i := 0) (v := .int .i64 (o.k : Int)) (by kernel_rfl) rfl (by kernel_rfl) (by kernel_rfl) (by kernel_rfl) (fun _ _ _ h => h) (by rfl) (fun w' hS => ?_) hS8 ?_
          · obtain ⟨s1, s2⟩ := hS
            go_simp
          simp only [Act.put, List.setIfInBounds_toArray, List.set_cons_zero, List.set_cons_succ]
          refine wpAnyN_take (i := 1) (v := .int .i64 (o.k : Int)) (by kernel_rfl) rfl (by kernel_rfl) (by kernel_rfl) (by kernel_rfl) (fun _ _ _ h => h) (by rfl) (fun w' hS => ?_) hS8 ?_
          · obtain ⟨s1, s2⟩ := hS
            go_simp
          simp only [Act.put, List.setIfInBounds_toArray, List.set_cons_zero, List.set_cons_succ]
          refine wpAnyN_take (i := 2) (v := .pointer (some ⟨EB, o.k, none⟩)) (by kernel_rfl) rfl (by kernel_rfl) (by kernel_rfl) (by kernel_rfl) (fun _ _ _ h => h) (by rfl) (fun w' hS => ?_) hS8 ?_
          · obtain ⟨s1, s2⟩ := hS
            go_simp
          simp only [Act.put, List.setIfInBounds_toArray, List.set_cons_zero, List.set_cons_succ]
          refine wpAnyN_take (i := 3) (v := vE) (by kernel_rfl) rfl (by kernel_rfl) (by kernel_rfl) (by kernel_rfl) (fun _ _ _ h => h) (by rfl) (fun w' hS => ?_) hS8 ?_
          · obtain ⟨s1, s2⟩ := hS
            go_simp
          simp only [Act.put, List.setIfInBounds_toArray, List.set_cons_zero, List.set_cons_succ]
          refine wpAnyN_take (i := 4) (v := .agg #[.int .i64 rev, .int .i64 (i : Int), .int .i64 rev, .int .i64 1, .int .i64 o.addr, .int .u32 o.size, .int .u32 o.sum, .int .u8 0, .int .u8 0, .int .u8 0, .int .u8 0, .int .u8 0, .int .u8 0, .int .u8 0, .int .u8 0, .int .u8 0, .int .u8 0, .int .u8 0, .int .u8 0, .int .u8 0, .int .u8 0, .int .u8 0, .int .u8 0, .int .i64 o.lease]) (by kernel_rfl) rfl (by kernel_rfl) (by kernel_rfl) (by kernel_rfl) (fun _ _ _ h => h) (by rfl) (fun w' hS => ?_) hS8 ?_
          · obtain ⟨s1, s2⟩ := hS
            go_simp
          simp only [Act.put, List.setIfInBounds_toArray, List.set_cons_zero, List.set_cons_succ]
          refine wpAnyN_one (i := 5) (by kernel_rfl) rfl (by rfl) (fun K hK => ?_)
          go_simp
          obtain ⟨w8a, hw8a⟩ : ∃ w8a, w8a = w8.alloc (.cells #[.int .i64 rev, .int .i64 (i : Int), .int .i64 rev, .int .i64 1, .int .i64 o.addr, .int .u32 o.size, .int .u32 o.sum, .int .u8 0, .int .u8 0, .int .u8 0, .int .u8 0, .int .u8 0, .int .u8 0, .int .u8 0, .int .u8 0, .int .u8 0, .int .u8 0, .int .u8 0, .int .u8 0, .int .u8 0, .int .u8 0, .int .u8 0, .int .u8 0, .int .i64 o.lease] 56) := ⟨_, rfl⟩
          obtain ⟨w8b, hw8b⟩ : ∃ w8b, w8b = w8a.drew := ⟨_, rfl⟩
          have F8a : Fr (fun _ => False) ρr ρr w8 w8b := by rw [hw8b, hw8a]; exact ((Fr.refl _ ρr w8).alloc _).drew
          rw [← hw8a, ← hw8b]
          refine hK.out _ _ (fun _ => SG w8b (F8a.mono (fun _ e => e.elim))) ?_
          clear hK
          refine wpAnyN_one (i := 6) (by kernel_rfl) rfl (by rfl) (fun K hK => ?_)
          have hown8 : w8b.ownsRow 0 56 24 vE (Lrun L rev os i o.k).length (chgs (Lrun L rev os i o.k)) := F8a.owns (Fr.owns F8 oE (fun _ _ e => e)) (fun _ _ e => e)
          have hsz8 : w8b.heap.size = w8.heap.size + 1 := by rw [hw8b, hw8a]; simp
          refine wp_append_lies w8b (.tmp 225) (.tmp 227) 38 (by rfl) 0 56 i56 (.agg (chgA 0 0 0 0 0 0 0 0)) 24 72 Yba.underlying38 hi56 hd0 hd1 hd2 rfl (by decide) vE (Lrun L rev os i o.k).length (chgs (Lrun L rev os i o.k)) (by rfl) hown8 ⟨w8.heap.size, 0, none⟩ 1 1 ck.cells (by rfl) rfl ?_ ck.one (by decide) hq1 hq2 (Nat.zero_le _) (w8.heap.size + 1) hsz8 ?_
          · rw [show ck.cells = _ from hcc]
            exact World.news_of_block (by rw [hw8b, hw8a]; exact heapN _ _ _ rfl)
          intro g9 cap9 w9 hown9 hgr9 hat9 hlt9
          have F9 : Fr (fun r => r = 10 + o.k) ρr ρr w8 w9 := (F8a.mono (fun _ e => e.elim)).grown hgr9 (fun g e => gEr g e)
          refine hK.out _ _ (fun _ => SG w9 F9) ?_
          clear hK
          simp only [Act.put, List.setIfInBounds_toArray, List.set_cons_zero, List.set_cons_succ]
          have S8b := St.keep S8 F8a
          have R8b := Rows2.keep R8 F8a
          have cEb : w8b.cell? ⟨EB, o.k, none⟩ = some vE := F8a.cell cE8 (fun e => e)
          have y1 : w9.cell? ⟨EB, o.k, none⟩ = some vE := (SG w9 F9).1
          have y2 : w9.frozen? ⟨EB, o.k, none⟩ = false := by
            obtain ⟨V, hob, _⟩ := (St.ex S8).ex
            exact obj_frozen (F9.obj hob (by rw [show ρr EB = 1 from rE8]; omega)) _
          obtain ⟨F10, E10⟩ := Ex.push (c := ck) S8b.ex hk5 cEb hgr9 hown9 (_root_.Or.imp id (fun e => by rw [hsz8]; exact Nat.le_of_eq e.symm) hat9) hlt9
          obtain ⟨w10, hw10⟩ : ∃ w10, w10 = w9.setCell ⟨EB, o.k, none⟩ (.slice (some ⟨g9, 0, none⟩) ((Lrun L rev os i o.k).length + 1) cap9) := ⟨_, rfl⟩
          obtain ⟨ρ10, hρ10⟩ : ∃ ρ10, ρ10 = upd ρr g9 (10 + o.k) := ⟨_, rfl⟩
          rw [← hw10, ← hρ10] at F10 E10
          rw [show (fun j => if j = o.k then Lrun L rev os i o.k ++ [ck] else Lrun L rev os i j) = Lrun L rev os (i + 1) from hstep] at E10
          have S10 := S8b.ex' hk5 F10 E10
          have R10 := R8b.fr F10 (by omega) (by omega) (by omega)
          have T26b : objAt w8b w6.heap.size = some (.cells #[.int .i64 rev, .int .i64 (i : Int), .int .i64 rev, .int .i64 1, .int .i64 o.addr, .int .u32 o.size, .int .u32 o.sum, .int .u8 0, .int .u8 0, .int .u8 0, .int .u8 0, .int .u8 0, .int .u8 0, .int .u8 0, .int .u8 0, .int .u8 0, .int .u8 0, .int .u8 0, .int .u8 0, .int .u8 0, .int .u8 0, .int .u8 0, .int .u8 0, .int .i64 o.lease] 56 (0, 0)) := F8a.obj T26 (fun e => e)
          have T10 : objAt w10 w6.heap.size = some (.cells #[.int .i64 rev, .int .i64 (i : Int), .int .i64 rev, .int .i64 1, .int .i64 o.addr, .int .u32 o.size, .int .u32 o.sum, .int .u8 0, .int .u8 0, .int .u8 0, .int .u8 0, .int .u8 0, .int .u8 0, .int .u8 0, .int .u8 0, .int .u8 0, .int .u8 0, .int .u8 0, .int .u8 0, .int .u8 0, .int .u8 0, .int .u8 0, .int .u8 0, .int .i64 o.lease] 56 (0, 0)) := F10.obj T26b (by rw [show ρr w6.heap.size = 0 from r26]; omega)
          have r10 : ρ10 w6.heap.size = 0 := (F10.role _ (obj_lt T26b)).trans r26
          have hnk : (rs ++ opRks rev os i).length = rs.length + i := by rw [List.length_append, opRks_length]
          obtain ⟨nk, hnke⟩ : ∃ nk, nk = rs.length + i := ⟨_, rfl⟩
          rw [← hnke] at hnk
          have hnkb : nk ≤ 266240 := by have h1 : rs.length ≤ 4096 := hrs; omega
          have q21 : nk + 1 ≤ maxLen := by unfold maxLen; omega
          have q22 : (nk + 1) * 8 ≤ 140737488355328 := by omega
          have q23 : (nk + 1) * 16 ≤ 140737488355328 := by omega
          have hown21 : ∀ o', Hid ((w10.alloc o').ownsRow 0 3 1 u11 nk (keysOf (rs ++ opRks rev os i))) := fun o' => by
            have h := (St.pk S10).alloc o'
            rw [hnk] at h
            exact h
          replace hown9 := hid hown9
          replace hgr9 := hid hgr9
          replace hat9 := hid hat9
          replace F9 := hid F9
          replace F8a := hid F8a
          replace hown8 := hid hown8
          replace hsz8 := hid hsz8
          replace S8b := hid S8b
          replace R8b := hid R8b
          replace F10 := hid F10
          replace E10 := hid E10
          replace S10 := hid S10
          replace R10 := hid R10
          replace T26b := hid T26b
          replace T10 := hid T10
          replace r10 := hid r10
          replace hw10 := hid hw10
          replace hρ10 := hid hρ10
          replace hnk := hid hnk
          replace hnke := hid hnke
          replace hw8a := hid hw8a
          replace hw8b := hid hw8b
          replace cEb := hid cEb
          refine wpAnyN_one (i := 7) (by kernel_rfl) rfl (by rfl) (fun K hK => ?_)
          go_simp
          refine hK.out _ _ (fun _ => SG w9 F9) ?_
          clear hK
          refine wpAnyN_one (i := 8) (by kernel_rfl) rfl (by rfl) (fun K hK => ?_)
          go_simp
          refine hK.out _ _ (fun h => absurd rfl h) ?_
          clear hK
          refine wpAnyN_done (by kernel_rfl) ?_ _
          refine NoPanic.normal ?_
          rw [← hw10]
          clear y1 y2
          go_wp2_with (first
            | (at_builtin; refine wpList_append_lies _ (by rfl) (.tmp 230) (.tmp 232) 40 (by rfl) 0 3 i3 (.int .i64 0) 1 8 Yba.underlying40 hi3 hb0 hb1 hb2 rfl (by decide) u11 nk (keysOf (rs ++ opRks rev os i)) (by rfl) (hown21 _) ⟨w10.heap.size, 0, none⟩ 1 1 [.int .i64 (o.k : Int)] (by rfl) (by rfl) (World.news_of_block (heapN _ _ _ (by simp))) (by intro u hu; simp at hu; subst hu; rfl) (by decide) q21 q22 (Nat.zero_le _) (w10.heap.size + 1) (by simp) ?_; intro g11 cap11 w11 hown11 hgr11 hat11 hlt11
               obtain ⟨w10a, hw10a⟩ : ∃ w10a, w10a = w10.alloc (.cells #[.int .i64 (o.k : Int)] 3) := ⟨_, rfl⟩
               have F10a : Fr (fun _ => False) ρ10 ρ10 w10 w10a := (by rw [hw10a]; exact (Fr.refl _ ρ10 w10).alloc _)
               have hz10 : w10a.heap.size = w10.heap.size + 1 := (by rw [hw10a]; simp)
               rw [← hw10a] at hgr11
               obtain ⟨F11, S11⟩ := St.pushK (r := ⟨rev, (i : Int), o.k⟩) (St.keep S10 F10a) hgr11 (by rw [show (rs ++ opRks rev os i).length = nk from hnk]; exact hown11) (_root_.Or.imp id (fun e => by rw [hz10]; exact Nat.le_of_eq e.symm) hat11) hlt11
               have R11 := Rows2.fr (Rows2.keep R10 F10a) F11 (by omega) (by omega) (by omega)
               have T11 := F11.obj (F10a.obj T10 (fun e => e)) (by rw [show ρ10 w6.heap.size = 0 from r10]; omega)
               have b0 : w11.cell? ⟨w6.heap.size, 0, none⟩ = some (.int .i64 rev) := obj_cell T11 0
               have b1 : w11.cell? ⟨w6.heap.size, 1, none⟩ = some (.int .i64 (i : Int)) := obj_cell T11 1
               have hown22 : ∀ o', Hid ((w11.alloc o').ownsRow 0 49 2 u12 nk (revsOf (rs ++ opRks rev os i))) := (fun o' => by
                 have h := (St.pr S11).alloc o'
                 rw [show (rs ++ opRks rev os i).length = nk from hnk] at h
                 exact h)
               replace hw10a := hid hw10a
               replace F10a := hid F10a
               replace hz10 := hid hz10
               replace hgr11 := hid hgr11
               replace F11 := hid F11
               replace S11 := hid S11
               replace R11 := hid R11
               replace T11 := hid T11
               replace hown11 := hid hown11
               replace hat11 := hid hat11)
            | (at_builtin; refine wpList_append_lies _ (by rfl) (.tmp 234) (.tmp 237) 41 (by rfl) 0 49 i49 (.agg #[.int .i64 0, .int .i64 0]) 2 16 Yba.underlying41 hi49 hc0 hc1 hc2 rfl (by decide) u12 nk (revsOf (rs ++ opRks rev os i)) (by rfl) (hown22 _) ⟨w11.heap.size, 0, none⟩ 1 1 [.int .i64 rev, .int .i64 (i : Int)] (by rfl) (by rfl) (World.news_of_block (heapN _ _ _ (by simp))) (by intro u hu; simp at hu; rcases hu with rfl | rfl <;> rfl) (by decide) q21 q23 (Nat.zero_le _) (w11.heap.size + 1) (by simp) ?_; intro g12 cap12 w12 hown12 hgr12 hat12 hlt12
               obtain ⟨w11a, hw11a⟩ : ∃ w11a, w11a = w11.alloc (.cells #[.int .i64 rev, .int .i64 (i : Int)] 49) := ⟨_, rfl⟩
               have F11a : Fr (fun _ => False) (upd ρ10 g11 3) (upd ρ10 g11 3) w11 w11a := (by rw [hw11a]; exact (Fr.refl _ _ w11).alloc _)
               have hz11 : w11a.heap.size = w11.heap.size + 1 := (by rw [hw11a]; simp)
               rw [← hw11a] at hgr12
               obtain ⟨F12, S12⟩ := St.pushR (r := ⟨rev, (i : Int), o.k⟩) (St.keep S11 F11a) hgr12 (by rw [show (rs ++ opRks rev os i).length = nk from hnk]; exact hown12) (_root_.Or.imp id (fun e => by rw [hz11]; exact Nat.le_of_eq e.symm) hat12) hlt12
               have R12 := Rows2.fr (Rows2.keep R11 F11a) F12 (by omega) (by omega) (by omega)
               replace S12 := hid S12
               replace R12 := hid R12
               clear F12 hown12 hgr12 hat12 F11a hz11 hw11a))
          have S12' := S12
          rw [show (rs ++ opRks rev os i).length = nk from hnk, show rs ++ opRks rev os i ++ [⟨rev, (i : Int), o.k⟩] = rs ++ opRks rev os (i + 1) from by rw [List.append_assoc, show o = os i from ho]; rfl] at S12'
          have R12' : Rows2 w12 _ ob vb n (i + 1) os := R12
          refine ⟨⟨i + 1, _, hlt, by simp, ⟨S12', R12'⟩⟩, ?_⟩
          simp [intOf]
          omega
        · obtain ⟨g, cp, hvE, hrl⟩ := row_last (l := l) (c := cl) (by rw [← hcat]; exact oE)
          obtain ⟨ll, hll⟩ : ∃ ll, ll = l.length := ⟨_, rfl⟩
          rw [← hll] at hvE hrl
          have cEs : w6.cell? ⟨EB, o.k, none⟩ = some (.slice (some ⟨g, 0, none⟩) (ll + 1) cp) := by rw [cE, hvE]
          have x2 : w6.cell? ⟨g, ll * 24 + 2, none⟩ = some (.int .i64 cl.create) := hrl 2 _ rfl
          have x3 : w6.cell? ⟨g, ll * 24 + 3, none⟩ = some (.int .i64 cl.version) := hrl 3 _ rfl
          have hgl : g < w6.heap.size := World.block_lt_of_cell? _ _ x2
          have hllb : ll ≤ 266240 := by
            have h1 : (Lrun L rev os i o.k).length ≤ 266240 := hlenE
            rw [hcat, List.length_append] at h1
            rw [hll]
            exact Nat.le_trans (Nat.le_add_right _ _) h1
          replace cE := hid cE
          replace hvE := hid hvE
          replace hcat := hid hcat
          replace hll := hid hll
          replace hrl := hid hrl
          by_cases hv0 : cl.version = 0
          · replace hw1 := hid hw1
            replace T23 := hid T23
            go_wp2
            rw [← hw1]
            clear m1 m2 m3 m4 m5
            have ka := hid (key_any o.k hk5)
            clear e0 e1 e2 e3 e4 e5 
            refine wp_region_noPanic (wp_region_N (fun w' => w'.cell? ⟨wr.heap.size, 2, none⟩ = some (.int .i64 o.lease)) 10 (by kernel_rfl) ?_)
            replace hS1 := hid hS1
            refine wpAnyN_take (i := 0) (v := .slice (some ⟨ob, 0, none⟩) n n) (by kernel_rfl) rfl (by kernel_rfl) (by kernel_rfl) (by kernel_rfl) (fun _ _ _ h => h) (by rfl) (fun w' hS => ?_) hS1 ?_
            · have s1 := hS
              go_simp
            simp only [Act.put, List.setIfInBounds_toArray, List.set_cons_zero, List.set_cons_succ]
            refine wpAnyN_take (i := 1) (v := .int .i64 i) (by kernel_rfl) rfl (by kernel_rfl) (by kernel_rfl) (by kernel_rfl) (fun _ _ _ h => h) (by rfl) (fun w' hS => ?_) hS1 ?_
            · have s1 := hS
              go_simp
            simp only [Act.put, List.setIfInBounds_toArray, List.set_cons_zero, List.set_cons_succ]
            refine wpAnyN_take (i := 2) (v := .int .u8 1) (by kernel_rfl) rfl (by kernel_rfl) (by kernel_rfl) (by kernel_rfl) (fun _ _ _ h => h) (by rfl) (fun w' hS => ?_) hS1 ?_
            · have s1 := hS
              go_simp
            simp only [Act.put, List.setIfInBounds_toArray, List.set_cons_zero, List.set_cons_succ]
            refine wpAnyN_take (i := 3) (v := .int .i64 o.k) (by kernel_rfl) rfl (by kernel_rfl) (by kernel_rfl) (by kernel_rfl) (fun _ _ _ h => h) (by rfl) (fun w' hS => ?_) hS1 ?_
            · have s1 := hS
              go_simp
            simp only [Act.put, List.setIfInBounds_toArray, List.set_cons_zero, List.set_cons_succ]
            refine wpAnyN_take (i := 6) (v := .pointer (some ⟨wr.heap.size, 2, none⟩)) (by kernel_rfl) rfl (by kernel_rfl) (by kernel_rfl) (by kernel_rfl) (fun _ _ _ h => h) (by rfl) (fun w' hS => ?_) hS1 ?_
            · have s1 := hS
              go_simp
            simp only [Act.put, List.setIfInBounds_toArray, List.set_cons_zero, List.set_cons_succ]
            refine wpAnyN_take (i := 7) (v := .int .i64 o.lease) (by kernel_rfl) rfl (by kernel_rfl) (by kernel_rfl) (by kernel_rfl) (fun _ _ _ h => h) (by rfl) (fun w' hS => ?_) hS1 ?_
            · have s1 := hS
              go_simp
            simp only [Act.put, List.setIfInBounds_toArray, List.set_cons_zero, List.set_cons_succ]
            refine wpAnyN_one (i := 4) (by kernel_rfl) rfl (by rfl) (fun K hK => ?_)
            go_simp
            refine Calls.mono (ka _) ?_
            rintro e w' ⟨rfl, hw'⟩
            rw [hw']
            refine hK.out _ _ (fun _ => hS1) ?_
            clear hK
            refine wpAnyN_one (i := 5) (by kernel_rfl) rfl (by rfl) (fun K hK => ?_)
            go_simp
            refine hK.out _ _ (fun _ => SF wc FC) ?_
            clear hK
            refine wpAnyN_one (i := 8) (by kernel_rfl) rfl (by rfl) (fun K hK => ?_)
            go_simp
            refine hK.out _ _ (fun _ => SF wc FC) ?_
            clear hK
            refine wpAnyN_one (i := 9) (by kernel_rfl) rfl (by rfl) (fun K hK => ?_)
            go_simp
            refine hK.out _ _ (fun _ => SF wc FC) ?_
            clear hK
            refine wpAnyN_one (i := 10) (by kernel_rfl) rfl (by rfl) (fun K hK => ?_)
            go_simp
            refine hK.out _ _ (fun h => absurd rfl h) ?_
            clear hK
            refine wpAnyN_done (by kernel_rfl) ?_ _
            refine NoPanic.normal ?_
            clear hcv
            go_wp2
            replace hv0 := hid hv0
            obtain ⟨ck, hck⟩ : ∃ ck, ck = nextC (Lrun L rev os i o.k) o.del rev i o.lease o.addr o.size o.sum := ⟨_, rfl⟩
            have hstep := stepL_is ho hck
            have hcc : ck.cells = (#[.int .i64 rev, .int .i64 (i : Int), .int .i64 rev, .int .i64 1, .int .i64 o.addr, .int .u32 o.size, .int .u32 o.sum, .int .u8 0, .int .u8 0, .int .u8 0, .int .u8 0, .int .u8 0, .int .u8 0, .int .u8 0, .int .u8 0, .int .u8 0, .int .u8 0, .int .u8 0, .int .u8 0, .int .u8 0, .int .u8 0, .int .u8 0, .int .u8 0, .int .i64 o.lease] : Array Value).toList := by
              rw [hck, hdel, show Lrun L rev os i o.k = l ++ [cl] from hcat, nextC_zero _ _ _ _ _ _ _ _ hv0]
              rfl
            obtain ⟨w8, hw8⟩ : ∃ w8, w8 = w6.alloc (.cells #[.int .i64 rev, .int .i64 (i : Int), .int .i64 rev, .int .i64 1, .int .i64 o.addr, .int .u32 o.size, .int .u32 o.sum, .int .u8 0, .int .u8 0, .int .u8 0, .int .u8 0, .int .u8 0, .int .u8 0, .int .u8 0, .int .u8 0, .int .u8 0, .int .u8 0, .int .u8 0, .int .u8 0, .int .u8 0, .int .u8 0, .int .u8 0, .int .u8 0, .int .i64 o.lease] 56) := ⟨_, rfl⟩
            rw [← hw8]
            have F8 : Fr (fun _ => False) ρr ρr w6 w8 := by rw [hw8]; exact (Fr.refl _ ρr w6).alloc _
            have S8 := St.keep S6 F8
            have R8 := Rows2.keep R6 F8
            have T26 : objAt w8 w6.heap.size = some (.cells #[.int .i64 rev, .int .i64 (i : Int), .int .i64 rev, .int .i64 1, .int .i64 o.addr, .int .u32 o.size, .int .u32 o.sum, .int .u8 0, .int .u8 0, .int .u8 0, .int .u8 0, .int .u8 0, .int .u8 0, .int .u8 0, .int .u8 0, .int .u8 0, .int .u8 0, .int .u8 0, .int .u8 0, .int .u8 0, .int .u8 0, .int .u8 0, .int .u8 0, .int .i64 o.lease] 56 (0, 0)) := by rw [hw8]; exact heapN _ _ _ rfl
            have r26 : ρr w6.heap.size = 0 := (St.ix S6).tidy _ (Nat.le_refl _)
            have cE8 : w8.cell? ⟨EB, o.k, none⟩ = some vE := F8.cell cE (fun e => e)
            have hS8 : w8.drew.cell? ⟨EB, o.k, none⟩ = some vE ∧ objAt w8.drew w6.heap.size = some (.cells #[.int .i64 rev, .int .i64 (i : Int), .int .i64 rev, .int .i64 1, .int .i64 o.addr, .int .u32 o.size, .int .u32 o.sum, .int .u8 0, .int .u8 0, .int .u8 0, .int .u8 0, .int .u8 0, .int .u8 0, .int .u8 0, .int .u8 0, .int .u8 0, .int .u8 0, .int .u8 0, .int .u8 0, .int .u8 0, .int .u8 0, .int .u8 0, .int .u8 0, .int .i64 o.lease] 56 (0, 0)) := ⟨cE8, T26⟩
            have rE8 : ρr EB = 1 := S8.ex.rE
            have SG : ∀ w', Fr (fun r => r = 10 + o.k) ρr ρr w8 w' → w'.cell? ⟨EB, o.k, none⟩ = some vE ∧ objAt w' w6.heap.size = some (.cells #[.int .i64 rev, .int .i64 (i : Int), .int .i64 rev, .int .i64 1, .int .i64 o.addr, .int .u32 o.size, .int .u32 o.sum, .int .u8 0, .int .u8 0, .int .u8 0, .int .u8 0, .int .u8 0, .int .u8 0, .int .u8 0, .int .u8 0, .int .u8 0, .int .u8 0, .int .u8 0, .int .u8 0, .int .u8 0, .int .u8 0, .int .u8 0, .int .u8 0, .int .i64 o.lease] 56 (0, 0)) := fun w' h => ⟨h.cell cE8 (by show ¬ (ρr EB = 10 + o.k); rw [rE8]; omega), h.obj T26 (by rw [r26]; omega)⟩
            clear c1 c2 c3 c4 c5 l54 st54 st70 cE t23l hEl cEs x2 x3 hgl
            replace hck := hid hck
            replace hstep := hid hstep
            replace hcc := hid hcc
            replace F8 := hid F8
            replace S8 := hid S8
            replace R8 := hid R8
            replace T26 := hid T26
            replace r26 := hid r26
            replace cE8 := hid cE8
            replace rE8 := hid rE8
            replace SG := hid SG
            replace hw8 := hid hw8
            refine wp_region_noPanic (wp_region_N (fun w' => w'.cell? ⟨EB, o.k, none⟩ = some vE ∧ objAt w' w6.heap.size = some (.cells #[.int .i64 rev, .int .i64 (i : Int), .int .i64 rev, .int .i64 1, .int .i64 o.addr, .int .u32 o.size, .int .u32 o.sum, .int .u8 0, .int .u8 0, .int .u8 0, .int .u8 0, .int .u8 0, .int .u8 0, .int .u8 0, .int .u8 0, .int .u8 0, .int .u8 0, .int .u8 0, .int .u8 0, .int .u8 0, .int .u8 0, .int .u8 0, .int .u8 0, .int .i64 o.lease] 56 (0, 0))) 8 (by kernel_rfl) ?_)
            replace hS8 := hid hS8
            refine wpAnyN_take (i := 0) (v := .int .i64 (o.k : Int)) (by kernel_rfl) rfl (by kernel_rfl) (by kernel_rfl) (by kernel_rfl) (fun _ _ _ h => h) (by rfl) (fun w' hS => ?_) hS8 ?_
            · obtain ⟨s1, s2⟩ := hS
              go_simp
            simp only [Act.put, List.setIfInBounds_toArray, List.set_cons_zero, List.set_cons_succ]
            refine wpAnyN_take (i := 1) (v := .int .i64 (o.k : Int)) (by kernel_rfl) rfl (by kernel_rfl) (by kernel_rfl) (by kernel_rfl) (fun _ _ _ h => h) (by rfl) (fun w' hS => ?_) hS8 ?_
            · obtain ⟨s1, s2⟩ := hS
              go_simp
            simp only [Act.put, List.setIfInBounds_toArray, List.set_cons_zero, List.set_cons_succ]
            refine wpAnyN_take (i := 2) (v := .pointer (some ⟨EB, o.k, none⟩)) (by kernel_rfl) rfl (by kernel_rfl) (by kernel_rfl) (by kernel_rfl) (fun _ _ _ h => h) (by rfl) (fun w' hS => ?_) hS8 ?_
            · obtain ⟨s1, s2⟩ := hS
              go_simp
            simp only [Act.put, List.setIfInBounds_toArray, List.set_cons_zero, List.set_cons_succ]
            refine wpAnyN_take (i := 3) (v := vE) (by kernel_rfl) rfl (by kernel_rfl) (by kernel_rfl) (by kernel_rfl) (fun _ _ _ h => h) (by rfl) (fun w' hS => ?_) hS8 ?_
            · obtain ⟨s1, s2⟩ := hS
              go_simp
            simp only [Act.put, List.setIfInBounds_toArray, List.set_cons_zero, List.set_cons_succ]
            refine wpAnyN_take (i := 4) (v := .agg #[.int .i64 rev, .int .i64 (i : Int), .int .i64 rev, .int .i64 1, .int .i64 o.addr, .int .u32 o.size, .int .u32 o.sum, .int .u8 0, .int .u8 0, .int .u8 0, .int .u8 0, .int .u8 0, .int .u8 0, .int .u8 0, .int .u8 0, .int .u8 0, .int .u8 0, .int .u8 0, .int .u8 0, .int .u8 0, .int .u8 0, .int .u8 0, .int .u8 0, .int .i64 o.lease]) (by kernel_rfl) rfl (by kernel_rfl) (by kernel_rfl) (by kernel_rfl) (fun _ _ _ h => h) (by rfl) (fun w' hS => ?_) hS8 ?_
            · obtain ⟨s1, s2⟩ := hS
              go_simp
            simp only [Act.put, List.setIfInBounds_toArray, List.set_cons_zero, List.set_cons_succ]
            refine wpAnyN_one (i := 5) (by kernel_rfl) rfl (by rfl) (fun K hK => ?_)
            go_simp
            obtain ⟨w8a, hw8a⟩ : ∃ w8a, w8a = w8.alloc (.cells #[.int .i64 rev, .int .i64 (i : Int), .int .i64 rev, .int .i64 1, .int .i64 o.addr, .int .u32 o.size, .int .u32 o.sum, .int .u8 0, .int .u8 0, .int .u8 0, .int .u8 0, .int .u8 0, .int .u8 0, .int .u8 0, .int .u8 0, .int .u8 0, .int .u8 0, .int .u8 0, .int .u8 0, .int .u8 0, .int .u8 0, .int .u8 0, .int .u8 0, .int .i64 o.lease] 56) := ⟨_, rfl⟩
            obtain ⟨w8b, hw8b⟩ : ∃ w8b, w8b = w8a.drew := ⟨_, rfl⟩
            have F8a : Fr (fun _ => False) ρr ρr w8 w8b := by rw [hw8b, hw8a]; exact ((Fr.refl _ ρr w8).alloc _).drew
            rw [← hw8a, ← hw8b]
            refine hK.out _ _ (fun _ => SG w8b (F8a.mono (fun _ e => e.elim))) ?_
            clear hK
            refine wpAnyN_one (i := 6) (by kernel_rfl) rfl (by rfl) (fun K hK => ?_)
            have hown8 : w8b.ownsRow 0 56 24 vE (Lrun L rev os i o.k).length (chgs (Lrun L rev os i o.k)) := F8a.owns (Fr.owns F8 oE (fun _ _ e => e)) (fun _ _ e => e)
            have hsz8 : w8b.heap.size = w8.heap.size + 1 := by rw [hw8b, hw8a]; simp
            refine wp_append_lies w8b (.tmp 225) (.tmp 227) 38 (by rfl) 0 56 i56 (.agg (chgA 0 0 0 0 0 0 0 0)) 24 72 Yba.underlying38 hi56 hd0 hd1 hd2 rfl (by decide) vE (Lrun L rev os i o.k).length (chgs (Lrun L rev os i o.k)) (by rfl) hown8 ⟨w8.heap.size, 0, none⟩ 1 1 ck.cells (by rfl) rfl ?_ ck.one (by decide) hq1 hq2 (Nat.zero_le _) (w8.heap.size + 1) hsz8 ?_
            · rw [show ck.cells = _ from hcc]
              exact World.news_of_block (by rw [hw8b, hw8a]; exact heapN _ _ _ rfl)
            intro g9 cap9 w9 hown9 hgr9 hat9 hlt9
            have F9 : Fr (fun r => r = 10 + o.k) ρr ρr w8 w9 := (F8a.mono (fun _ e => e.elim)).grown hgr9 (fun g e => gEr g e)
            refine hK.out _ _ (fun _ => SG w9 F9) ?_
            clear hK
            simp only [Act.put, List.setIfInBounds_toArray, List.set_cons_zero, List.set_cons_succ]
            have S8b := St.keep S8 F8a
            have R8b := Rows2.keep R8 F8a
            have cEb : w8b.cell? ⟨EB, o.k, none⟩ = some vE := F8a.cell cE8 (fun e => e)
            have y1 : w9.cell? ⟨EB, o.k, none⟩ = some vE := (SG w9 F9).1
            have y2 : w9.frozen? ⟨EB, o.k, none⟩ = false := by
              obtain ⟨V, hob, _⟩ := (St.ex S8).ex
              exact obj_frozen (F9.obj hob (by rw [show ρr EB = 1 from rE8]; omega)) _
            obtain ⟨F10, E10⟩ := Ex.push (c := ck) S8b.ex hk5 cEb hgr9 hown9 (_root_.Or.imp id (fun e => by rw [hsz8]; exact Nat.le_of_eq e.symm) hat9) hlt9
            obtain ⟨w10, hw10⟩ : ∃ w10, w10 = w9.setCell ⟨EB, o.k, none⟩ (.slice (some ⟨g9, 0, none⟩) ((Lrun L rev os i o.k).length + 1) cap9) := ⟨_, rfl⟩
            obtain ⟨ρ10, hρ10⟩ : ∃ ρ10, ρ10 = upd ρr g9 (10 + o.k) := ⟨_, rfl⟩
            rw [← hw10, ← hρ10] at F10 E10
            rw [show (fun j => if j = o.k then Lrun L rev os i o.k ++ [ck] else Lrun L rev os i j) = Lrun L rev os (i + 1) from hstep] at E10
            have S10 := S8b.ex' hk5 F10 E10
            have R10 := R8b.fr F10 (by omega) (by omega) (by omega)
            have T26b : objAt w8b w6.heap.size = some (.cells #[.int .i64 rev, .int .i64 (i : Int), .int .i64 rev, .int .i64 1, .int .i64 o.addr, .int .u32 o.size, .int .u32 o.sum, .int .u8 0, .int .u8 0, .int .u8 0, .int .u8 0, .int .u8 0, .int .u8 0, .int .u8 0, .int .u8 0, .int .u8 0, .int .u8 0, .int .u8 0, .int .u8 0, .int .u8 0, .int .u8 0, .int .u8 0, .int .u8 0, .int .i64 o.lease] 56 (0, 0)) := F8a.obj T26 (fun e => e)
            have T10 : objAt w10 w6.heap.size = some (.cells #[.int .i64 rev, .int .i64 (i : Int), .int .i64 rev, .int .i64 1, .int .i64 o.addr, .int .u32 o.size, .int .u32 o.sum, .int .u8 0, .int .u8 0, .int .u8 0, .int .u8 0, .int .u8 0, .int .u8 0, .int .u8 0, .int .u8 0, .int .u8 0, .int .u8 0, .int .u8 0, .int .u8 0, .int .u8 0, .int .u8 0, .int .u8 0, .int .u8 0, .int .i64 o.lease] 56 (0, 0)) := F10.obj T26b (by rw [show ρr w6.heap.size = 0 from r26]; omega)
            have r10 : ρ10 w6.heap.size = 0 := (F10.role _ (obj_lt T26b)).trans r26
            have hnk : (rs ++ opRks rev os i).length = rs.length + i := by rw [List.length_append, opRks_length]
            obtain ⟨nk, hnke⟩ : ∃ nk, nk = rs.length + i := ⟨_, rfl⟩
            rw [← hnke] at hnk
            have hnkb : nk ≤ 266240 := by have h1 : rs.length ≤ 4096 := hrs; omega
            have q21 : nk + 1 ≤ maxLen := by unfold maxLen; omega
            have q22 : (nk + 1) * 8 ≤ 140737488355328 := by omega
            have q23 : (nk + 1) * 16 ≤ 140737488355328 := by omega
            have hown21 : ∀ o', Hid ((w10.alloc o').ownsRow 0 3 1 u11 nk (keysOf (rs ++ opRks rev os i))) := fun o' => by
              have h := (St.pk S10).alloc o'
              rw [hnk] at h
              exact h
            replace hown9 := hid hown9
            replace hgr9 := hid hgr9
            replace hat9 := hid hat9
            replace F9 := hid F9
            replace F8a := hid F8a
            replace hown8 := hid hown8
            replace hsz8 := hid hsz8
            replace S8b := hid S8b
            replace R8b := hid R8b
            replace F10 := hid F10
            replace E10 := hid E10
            replace S10 := hid S10
            replace R10 := hid R10
            replace T26b := hid T26b
            replace T10 := hid T10
            replace r10 := hid r10
            replace hw10 := hid hw10
            replace hρ10 := hid hρ10
            replace hnk := hid hnk
            replace hnke := hid hnke
            replace hw8a := hid hw8a
            replace hw8b := hid hw8b
            replace cEb := hid cEb
            refine wpAnyN_one (i := 7) (by kernel_rfl) rfl (by rfl) (fun K hK => ?_)
            go_simp
            refine hK.out _ _ (fun _ => SG w9 F9) ?_
            clear hK
            refine wpAnyN_one (i := 8) (by kernel_rfl) rfl (by rfl) (fun K hK => ?_)
            go_simp
            refine hK.out _ _ (fun h => absurd rfl h) ?_
            clear hK
            refine wpAnyN_done (by kernel_rfl) ?_ _
            refine NoPanic.normal ?_
            rw [← hw10]
            clear y1 y2
            go_wp2_with (first
              | (at_builtin; refine wpList_append_lies _ (by rfl) (.tmp 230) (.tmp 232) 40 (by rfl) 0 3 i3 (.int .i64 0) 1 8 Yba.underlying40 hi3 hb0 hb1 hb2 rfl (by decide) u11 nk (keysOf (rs ++ opRks rev os i)) (by rfl) (hown21 _) ⟨w10.heap.size, 0, none⟩ 1 1 [.int .i64 (o.k : Int)] (by rfl) (by rfl) (World.news_of_block (heapN _ _ _ (by simp))) (by intro u hu; simp at hu; subst hu; rfl) (by decide) q21 q22 (Nat.zero_le _) (w10.heap.size + 1) (by simp) ?_; intro g11 cap11 w11 hown11 hgr11 hat11 hlt11
                 obtain ⟨w10a, hw10a⟩ : ∃ w10a, w10a = w10.alloc (.cells #[.int .i64 (o.k : Int)] 3) := ⟨_, rfl⟩
                 have F10a : Fr (fun _ => False) ρ10 ρ10 w10 w10a := (by rw [hw10a]; exact (Fr.refl _ ρ10 w10).alloc _)
                 have hz10 : w10a.heap.size = w10.heap.size + 1 := (by rw [hw10a]; simp)
                 rw [← hw10a] at hgr11
                 obtain ⟨F11, S11⟩ := St.pushK (r := ⟨rev, (i : Int), o.k⟩) (St.keep S10 F10a) hgr11 (by rw [show (rs ++ opRks rev os i).length = nk from hnk]; exact hown11) (_root_.Or.imp id (fun e => by rw [hz10]; exact Nat.le_of_eq e.symm) hat11) hlt11
                 have R11 := Rows2.fr (Rows2.keep R10 F10a) F11 (by omega) (by omega) (by omega)
                 have T11 := F11.obj (F10a.obj T10 (fun e => e)) (by rw [show ρ10 w6.heap.size = 0 from r10]; omega)
                 have b0 : w11.cell? ⟨w6.heap.size, 0, none⟩ = some (.int .i64 rev) := obj_cell T11 0
                 have b1 : w11.cell? ⟨w6.heap.size, 1, none⟩ = some (.int .i64 (i : Int)) := obj_cell T11 1
                 have hown22 : ∀ o', Hid ((w11.alloc o').ownsRow 0 49 2 u12 nk (revsOf (rs ++ opRks rev os i))) := (fun o' => by
                   have h := (St.pr S11).alloc o'
                   rw [show (rs ++ opRks rev os i).length = nk from hnk] at h
                   exact h)
                 replace hw10a := hid hw10a
                 replace F10a := hid F10a
                 replace hz10 := hid hz10
                 replace hgr11 := hid hgr11
                 replace F11 := hid F11
                 replace S11 := hid S11
                 replace R11 := hid R11
                 replace T11 := hid T11
                 replace hown11 := hid hown11
                 replace hat11 := hid hat11)
              | (at_builtin; refine wpList_append_lies _ (by rfl) (.tmp 234) (.tmp 237) 41 (by rfl) 0 49 i49 (.agg #[.int .i64 0, .int .i64 0]) 2 16 Yba.underlying41 hi49 hc0 hc1 hc2 rfl (by decide) u12 nk (revsOf (rs ++ opRks rev os i)) (by rfl) (hown22 _) ⟨w11.heap.size, 0, none⟩ 1 1 [.int .i64 rev, .int .i64 (i : Int)] (by rfl) (by rfl) (World.news_of_block (heapN _ _ _ (by simp))) (by intro u hu; simp at hu; rcases hu with rfl | rfl <;> rfl) (by decide) q21 q23 (Nat.zero_le _) (w11.heap.size + 1) (by simp) ?_; intro g12 cap12 w12 hown12 hgr12 hat12 hlt12
                 obtain ⟨w11a, hw11a⟩ : ∃ w11a, w11a = w11.alloc (.cells #[.int .i64 rev, .int .i64 (i : Int)] 49) := ⟨_, rfl⟩
                 have F11a : Fr (fun _ => False) (upd ρ10 g11 3) (upd ρ10 g11 3) w11 w11a := (by rw [hw11a]; exact (Fr.refl _ _ w11).alloc _)
                 have hz11 : w11a.heap.size = w11.heap.size + 1 := (by rw [hw11a]; simp)
                 rw [← hw11a] at hgr12
                 obtain ⟨F12, S12⟩ := St.pushR (r := ⟨rev, (i : Int), o.k⟩) (St.keep S11 F11a) hgr12 (by rw [show (rs ++ opRks rev os i).length = nk from hnk]; exact hown12) (_root_.Or.imp id (fun e => by rw [hz11]; exact Nat.le_of_eq e.symm) hat12) hlt12
                 have R12 := Rows2.fr (Rows2.keep R11 F11a) F12 (by omega) (by omega) (by omega)
                 replace S12 := hid S12
                 replace R12 := hid R12
                 clear F12 hown12 hgr12 hat12 F11a hz11 hw11a))
            have S12' := S12
            rw [show (rs ++ opRks rev os i).length = nk from hnk, show rs ++ opRks rev os i ++ [⟨rev, (i : Int), o.k⟩] = rs ++ opRks rev os (i + 1) from by rw [List.append_assoc, show o = os i from ho]; rfl] at S12'
            have R12' : Rows2 w12 _ ob vb n (i + 1) os := R12
            refine ⟨⟨i + 1, _, hlt, by simp, ⟨S12', R12'⟩⟩, ?_⟩
            simp [intOf]
            omega
          · obtain ⟨ver, hver⟩ : ∃ ver, ver = cl.version := ⟨_, rfl⟩
            have hvn : (ver != 0) = true := by rw [hver]; simp [hv0]
            rw [← hver] at x3
            replace hv0 := hid hv0
            replace hver := hid hver
            have i1 : (0 : Int) < ((ll + 1 : Nat) : Int) := by omega
            have i3 : (0 : Int) ≤ (ll : Int) := by omega
            have i6 : (ll : Int) < (ll : Int) + 1 := by omega
            replace hw1 := hid hw1
            replace T23 := hid T23
            go_wp2
            rw [← hw1]
            clear m1 m2 m3 m4 m5
            have ka := hid (key_any o.k hk5)
            clear e0 e1 e2 e3 e4 e5 
            refine wp_region_noPanic (wp_region_N (fun w' => w'.cell? ⟨wr.heap.size, 2, none⟩ = some (.int .i64 o.lease)) 10 (by kernel_rfl) ?_)
            replace hS1 := hid hS1
            refine wpAnyN_take (i := 0) (v := .slice (some ⟨ob, 0, none⟩) n n) (by kernel_rfl) rfl (by kernel_rfl) (by kernel_rfl) (by kernel_rfl) (fun _ _ _ h => h) (by rfl) (fun w' hS => ?_) hS1 ?_
            · have s1 := hS
              go_simp
            simp only [Act.put, List.setIfInBounds_toArray, List.set_cons_zero, List.set_cons_succ]
            refine wpAnyN_take (i := 1) (v := .int .i64 i) (by kernel_rfl) rfl (by kernel_rfl) (by kernel_rfl) (by kernel_rfl) (fun _ _ _ h => h) (by rfl) (fun w' hS => ?_) hS1 ?_
            · have s1 := hS
              go_simp
            simp only [Act.put, List.setIfInBounds_toArray, List.set_cons_zero, List.set_cons_succ]
            refine wpAnyN_take (i := 2) (v := .int .u8 1) (by kernel_rfl) rfl (by kernel_rfl) (by kernel_rfl) (by kernel_rfl) (fun _ _ _ h => h) (by rfl) (fun w' hS => ?_) hS1 ?_
            · have s1 := hS
              go_simp
            simp only [Act.put, List.setIfInBounds_toArray, List.set_cons_zero, List.set_cons_succ]
            refine wpAnyN_take (i := 3) (v := .int .i64 o.k) (by kernel_rfl) rfl (by kernel_rfl) (by kernel_rfl) (by kernel_rfl) (fun _ _ _ h => h) (by rfl) (fun w' hS => ?_) hS1 ?_
            · have s1 := hS
              go_simp
            simp only [Act.put, List.setIfInBounds_toArray, List.set_cons_zero, List.set_cons_succ]
            refine wpAnyN_take (i := 6) (v := .pointer (some ⟨wr.heap.size, 2, none⟩)) (by kernel_rfl) rfl (by kernel_rfl) (by kernel_rfl) (by kernel_rfl) (fun _ _ _ h => h) (by rfl) (fun w' hS => ?_) hS1 ?_
            · have s1 := hS
              go_simp
            simp only [Act.put, List.setIfInBounds_toArray, List.set_cons_zero, List.set_cons_succ]
            refine wpAnyN_take (i := 7) (v := .int .i64 o.lease) (by kernel_rfl) rfl (by kernel_rfl) (by kernel_rfl) (by kernel_rfl) (fun _ _ _ h => h) (by rfl) (fun w' hS => ?_) hS1 ?_
            · have s1 := hS
              go_simp
            simp only [Act.put, List.setIfInBounds_toArray, List.set_cons_zero, List.set_cons_succ]
            refine wpAnyN_one (i := 4) (by kernel_rfl) rfl (by rfl) (fun K hK => ?_)
            go_simp
            refine Calls.mono (ka _) ?_
            rintro e w' ⟨rfl, hw'⟩
            rw [hw']
            refine hK.out _ _ (fun _ => hS1) ?_
            clear hK
            refine wpAnyN_one (i := 5) (by kernel_rfl) rfl (by rfl) (fun K hK => ?_)
            go_simp
            refine hK.out _ _ (fun _ => SF wc FC) ?_
            clear hK
            refine wpAnyN_one (i := 8) (by kernel_rfl) rfl (by rfl) (fun K hK => ?_)
            go_simp
            refine hK.out _ _ (fun _ => SF wc FC) ?_
            clear hK
            refine wpAnyN_one (i := 9) (by kernel_rfl) rfl (by rfl) (fun K hK => ?_)
            go_simp
            refine hK.out _ _ (fun _ => SF wc FC) ?_
            clear hK
            refine wpAnyN_one (i := 10) (by kernel_rfl) rfl (by rfl) (fun K hK => ?_)
            go_simp
            refine hK.out _ _ (fun h => absurd rfl h) ?_
            clear hK
            refine wpAnyN_done (by kernel_rfl) ?_ _
            refine NoPanic.normal ?_
            clear hcv
            go_wp2
            clear hvn
            generalize hvv : wrap64 (ver + 1) = vv
            replace hvv := hid hvv
            obtain ⟨ck, hck⟩ : ∃ ck, ck = nextC (Lrun L rev os i o.k) o.del rev i o.lease o.addr o.size o.sum := ⟨_, rfl⟩
            have hstep := stepL_is ho hck
            have hcc : ck.cells = (#[.int .i64 rev, .int .i64 (i : Int), .int .i64 cl.create, .int .i64 vv, .int .i64 o.addr, .int .u32 o.size, .int .u32 o.sum, .int .u8 0, .int .u8 0, .int .u8 0, .int .u8 0, .int .u8 0, .int .u8 0, .int .u8 0, .int .u8 0, .int .u8 0, .int .u8 0, .int .u8 0, .int .u8 0, .int .u8 0, .int .u8 0, .int .u8 0, .int .u8 0, .int .i64 o.lease] : Array Value).toList := by
              rw [hck, hdel, show Lrun L rev os i o.k = l ++ [cl] from hcat, nextC_more _ _ _ _ _ _ _ _ hv0, ← show ver = cl.version from hver, show wrap64 (ver + 1) = vv from hvv]
              rfl
            obtain ⟨w8, hw8⟩ : ∃ w8, w8 = w6.alloc (.cells #[.int .i64 rev, .int .i64 (i : Int), .int .i64 cl.create, .int .i64 vv, .int .i64 o.addr, .int .u32 o.size, .int .u32 o.sum, .int .u8 0, .int .u8 0, .int .u8 0, .int .u8 0, .int .u8 0, .int .u8 0, .int .u8 0, .int .u8 0, .int .u8 0, .int .u8 0, .int .u8 0, .int .u8 0, .int .u8 0, .int .u8 0, .int .u8 0, .int .u8 0, .int .i64 o.lease] 56) := ⟨_, rfl⟩
            rw [← hw8]
            have F8 : Fr (fun _ => False) ρr ρr w6 w8 := by rw [hw8]; exact (Fr.refl _ ρr w6).alloc _
            have S8 := St.keep S6 F8
            have R8 := Rows2.keep R6 F8
            have T26 : objAt w8 w6.heap.size = some (.cells #[.int .i64 rev, .int .i64 (i : Int), .int .i64 cl.create, .int .i64 vv, .int .i64 o.addr, .int .u32 o.size, .int .u32 o.sum, .int .u8 0, .int .u8 0, .int .u8 0, .int .u8 0, .int .u8 0, .int .u8 0, .int .u8 0, .int .u8 0, .int .u8 0, .int .u8 0, .int .u8 0, .int .u8 0, .int .u8 0, .int .u8 0, .int .u8 0, .int .u8 0, .int .i64 o.lease] 56 (0, 0)) := by rw [hw8]; exact heapN _ _ _ rfl
            have r26 : ρr w6.heap.size = 0 := (St.ix S6).tidy _ (Nat.le_refl _)
            have cE8 : w8.cell? ⟨EB, o.k, none⟩ = some vE := F8.cell cE (fun e => e)
            have hS8 : w8.drew.cell? ⟨EB, o.k, none⟩ = some vE ∧ objAt w8.drew w6.heap.size = some (.cells #[.int .i64 rev, .int .i64 (i : Int), .int .i64 cl.create, .int .i64 vv, .int .i64 o.addr, .int .u32 o.size, .int .u32 o.sum, .int .u8 0, .int .u8 0, .int .u8 0, .int .u8 0, .int .u8 0, .int .u8 0, .int .u8 0, .int .u8 0, .int .u8 0, .int .u8 0, .int .u8 0, .int .u8 0, .int .u8 0, .int .u8 0, .int .u8 0, .int .u8 0, .int .i64 o.lease] 56 (0, 0)) := ⟨cE8, T26⟩
            have rE8 : ρr EB = 1 := S8.ex.rE
            have SG : ∀ w', Fr (fun r => r = 10 + o.k) ρr ρr w8 w' → w'.cell? ⟨EB, o.k, none⟩ = some vE ∧ objAt w' w6.heap.size = some (.cells #[.int .i64 rev, .int .i64 (i : Int), .int .i64 cl.create, .int .i64 vv, .int .i64 o.addr, .int .u32 o.size, .int .u32 o.sum, .int .u8 0, .int .u8 0, .int .u8 0, .int .u8 0, .int .u8 0, .int .u8 0, .int .u8 0, .int .u8 0, .int .u8 0, .int .u8 0, .int .u8 0, .int .u8 0, .int .u8 0, .int .u8 0, .int .u8 0, .int .u8 0, .int .i64 o.lease] 56 (0, 0)) := fun w' h => ⟨h.cell cE8 (by show ¬ (ρr EB = 10 + o.k); rw [rE8]; omega), h.obj T26 (by rw [r26]; omega)⟩
            clear c1 c2 c3 c4 c5 l54 st54 st70 cE t23l hEl cEs x2 x3 hgl i1 i3 i6 hllb
            replace hck := hid hck
            replace hstep := hid hstep
            replace hcc := hid hcc
            replace F8 := hid F8
            replace S8 := hid S8
            replace R8 := hid R8
            replace T26 := hid T26
            replace r26 := hid r26
            replace cE8 := hid cE8
            replace rE8 := hid rE8
            replace SG := hid SG
            replace hw8 := hid hw8
            refine wp_region_noPanic (wp_region_N (fun w' => w'.cell? ⟨EB, o.k, none⟩ = some vE ∧ objAt w' w6.heap.size = some (.cells #[.int .i64 rev, .int .i64 (i : Int), .int .i64 cl.create, .int .i64 vv, .int .i64 o.addr, .int .u32 o.size, .int .u32 o.sum, .int .u8 0, .int .u8 0, .int .u8 0, .int .u8 0, .int .u8 0, .int .u8 0, .int .u8 0, .int .u8 0, .int .u8 0, .int .u8 0, .int .u8 0, .int .u8 0, .int .u8 0, .int .u8 0, .int .u8 0, .int .u8 0, .int .i64 o.lease] 56 (0, 0))) 8 (by kernel_rfl) ?_)
            replace hS8 := hid hS8
            refine wpAnyN_take (i := 0) (v := .int .i64 (o.k : Int)) (by kernel_rfl) rfl (by kernel_rfl) (by kernel_rfl) (by kernel_rfl) (fun _ _ _ h => h) (by rfl) (fun w' hS => ?_) hS8 ?_
            · obtain ⟨s1, s2⟩ := hS
              go_simp
            simp only [Act.put, List.setIfInBounds_toArray, List.set_cons_zero, List.set_cons_succ]
            refine wpAnyN_take (i := 1) (v := .int .i64 (o.k : Int)) (by kernel_rfl) rfl (by kernel_rfl) (by kernel_rfl) (by kernel_rfl) (fun _ _ _ h => h) (by rfl) (fun w' hS => ?_) hS8 ?_
            · obtain ⟨s1, s2⟩ := hS
              go_simp
            simp only [Act.put, List.setIfInBounds_toArray, List.set_cons_zero, List.set_cons_succ]
            refine wpAnyN_take (i := 2) (v := .pointer (some ⟨EB, o.k, none⟩)) (by kernel_rfl) rfl (by kernel_rfl) (by kernel_rfl) (by kernel_rfl) (fun _ _ _ h => h) (by rfl) (fun w' hS => ?_) hS8 ?_
            · obtain ⟨s1, s2⟩ := hS
              go_simp
            simp only [Act.put, List.setIfInBounds_toArray, List.set_cons_zero, List.set_cons_succ]
            refine wpAnyN_take (i := 3) (v := vE) (by kernel_rfl) rfl (by kernel_rfl) (by kernel_rfl) (by kernel_rfl) (fun _ _ _ h => h) (by rfl) (fun w' hS => ?_) hS8 ?_
            · obtain ⟨s1, s2⟩ := hS
              go_simp
            simp only [Act.put, List.setIfInBounds_toArray, List.set_cons_zero, List.set_cons_succ]
            refine wpAnyN_take (i := 4) (v := .agg #[.int .i64 rev, .int .i64 (i : Int), .int .i64 cl.create, .int .i64 vv, .int .i64 o.addr, .int .u32 o.size, .int .u32 o.sum, .int .u8 0, .int .u8 0, .int .u8 0, .int .u8 0, .int .u8 0, .int .u8 0, .int .u8 0, .int .u8 0, .int .u8 0, .int .u8 0, .int .u8 0, .int .u8 0, .int .u8 0, .int .u8 0, .int .u8 0, .int .u8 0, .int .i64 o.lease]) (by kernel_rfl) rfl (by kernel_rfl) (by kernel_rfl) (by kernel_rfl) (fun _ _ _ h => h) (by rfl) (fun w' hS => ?_) hS8 ?_
            · obtain ⟨s1, s2⟩ := hS
              go_simp
            simp only [Act.put, List.setIfInBounds_toArray, List.set_cons_zero, List.set_cons_succ]
            refine wpAnyN_one (i := 5) (by kernel_rfl) rfl (by rfl) (fun K hK => ?_)
            go_simp
            obtain ⟨w8a, hw8a⟩ : ∃ w8a, w8a = w8.alloc (.cells #[.int .i64 rev, .int .i64 (i : Int), .int .i64 cl.create, .int .i64 vv, .int .i64 o.addr, .int .u32 o.size, .int .u32 o.sum, .int .u8 0, .int .u8 0, .int .u8 0, .int .u8 0, .int .u8 0, .int .u8 0, .int .u8 0, .int .u8 0, .int .u8 0, .int .u8 0, .int .u8 0, .int .u8 0, .int .u8 0, .int .u8 0, .int .u8 0, .int .u8 0, .int .i64 o.lease] 56) := ⟨_, rfl⟩
            obtain ⟨w8b, hw8b⟩ : ∃ w8b, w8b = w8a.drew := ⟨_, rfl⟩
            have F8a : Fr (fun _ => False) ρr ρr w8 w8b := by rw [hw8b, hw8a]; exact ((Fr.refl _ ρr w8).alloc _).drew
            rw [← hw8a, ← hw8b]
            refine hK.out _ _ (fun _ => SG w8b (F8a.mono (fun _ e => e.elim))) ?_
            clear hK
            refine wpAnyN_one (i := 6) (by kernel_rfl) rfl (by rfl) (fun K hK => ?_)
            have hown8 : w8b.ownsRow 0 56 24 vE (Lrun L rev os i o.k).length (chgs (Lrun L rev os i o.k)) := F8a.owns (Fr.owns F8 oE (fun _ _ e => e)) (fun _ _ e => e)
            have hsz8 : w8b.heap.size = w8.heap.size + 1 := by rw [hw8b, hw8a]; simp
            refine wp_append_lies w8b (.tmp 225) (.tmp 227) 38 (by rfl) 0 56 i56 (.agg (chgA 0 0 0 0 0 0 0 0)) 24 72 Yba.underlying38 hi56 hd0 hd1 hd2 rfl (by decide) vE (Lrun L rev os i o.k).length (chgs (Lrun L rev os i o.k)) (by rfl) hown8 ⟨w8.heap.size, 0, none⟩ 1 1 ck.cells (by rfl) rfl ?_ ck.one (by decide) hq1 hq2 (Nat.zero_le _) (w8.heap.size + 1) hsz8 ?_
            · rw [show ck.cells = _ from hcc]
              exact World.news_of_block (by rw [hw8b, hw8a]; exact heapN _ _ _ rfl)
            intro g9 cap9 w9 hown9 hgr9 hat9 hlt9
            have F9 : Fr (fun r => r = 10 + o.k) ρr ρr w8 w9 := (F8a.mono (fun _ e => e.elim)).grown hgr9 (fun g e => gEr g e)
            refine hK.out _ _ (fun _ => SG w9 F9) ?_
            clear hK
            simp only [Act.put, List.setIfInBounds_toArray, List.set_cons_zero, List.set_cons_succ]
            have S8b := St.keep S8 F8a
            have R8b := Rows2.keep R8 F8a
            have cEb : w8b.cell? ⟨EB, o.k, none⟩ = some vE := F8a.cell cE8 (fun e => e)
            have y1 : w9.cell? ⟨EB, o.k, none⟩ = some vE := (SG w9 F9).1
            have y2 : w9.frozen? ⟨EB, o.k, none⟩ = false := by
              obtain ⟨V, hob, _⟩ := (St.ex S8).ex
              exact obj_frozen (F9.obj hob (by rw [show ρr EB = 1 from rE8]; omega)) _
            obtain ⟨F10, E10⟩ := Ex.push (c := ck) S8b.ex hk5 cEb hgr9 hown9 (_root_.Or.imp id (fun e => by rw [hsz8]; exact Nat.le_of_eq e.symm) hat9) hlt9
            obtain ⟨w10, hw10⟩ : ∃ w10, w10 = w9.setCell ⟨EB, o.k, none⟩ (.slice (some ⟨g9, 0, none⟩) ((Lrun L rev os i o.k).length + 1) cap9) := ⟨_, rfl⟩
            obtain ⟨ρ10, hρ10⟩ : ∃ ρ10, ρ10 = upd ρr g9 (10 + o.k) := ⟨_, rfl⟩
            rw [← hw10, ← hρ10] at F10 E10
            rw [show (fun j => if j = o.k then Lrun L rev os i o.k ++ [ck] else Lrun L rev os i j) = Lrun L rev os (i + 1) from hstep] at E10
            have S10 := S8b.ex' hk5 F10 E10
            have R10 := R8b.fr F10 (by omega) (by omega) (by omega)
            have T26b : objAt w8b w6.heap.size = some (.cells #[.int .i64 rev, .int .i64 (i : Int), .int .i64 cl.create, .int .i64 vv, .int .i64 o.addr, .int .u32 o.size, .int .u32 o.sum, .int .u8 0, .int .u8 0, .int .u8 0, .int .u8 0, .int .u8 0, .int .u8 0, .int .u8 0, .int .u8 0, .int .u8 0, .int .u8 0, .int .u8 0, .int .u8 0, .int .u8 0, .int .u8 0, .int .u8 0, .int .u8 0, .int .i64 o.lease] 56 (0, 0)) := F8a.obj T26 (fun e => e)
            have T10 : objAt w10 w6.heap.size = some (.cells #[.int .i64 rev, .int .i64 (i : Int), .int .i64 cl.create, .int .i64 vv, .int .i64 o.addr, .int .u32 o.size, .int .u32 o.sum, .int .u8 0, .int .u8 0, .int .u8 0, .int .u8 0, .int .u8 0, .int .u8 0, .int .u8 0, .int .u8 0, .int .u8 0, .int .u8 0, .int .u8 0, .int .u8 0, .int .u8 0, .int .u8 0, .int .u8 0, .int .u8 0, .int .i64 o.lease] 56 (0, 0)) := F10.obj T26b (by rw [show ρr w6.heap.size = 0 from r26]; omega)
            have r10 : ρ10 w6.heap.size = 0 := (F10.role _ (obj_lt T26b)).trans r26
            have hnk : (rs ++ opRks rev os i).length = rs.length + i := by rw [List.length_append, opRks_length]
            obtain ⟨nk, hnke⟩ : ∃ nk, nk = rs.length + i := ⟨_, rfl⟩
            rw [← hnke] at hnk
            have hnkb : nk ≤ 266240 := by have h1 : rs.length ≤ 4096 := hrs; omega
            have q21 : nk + 1 ≤ maxLen := by unfold maxLen; omega
            have q22 : (nk + 1) * 8 ≤ 140737488355328 := by omega
            have q23 : (nk + 1) * 16 ≤ 140737488355328 := by omega
            have hown21 : ∀ o', Hid ((w10.alloc o').ownsRow 0 3 1 u11 nk (keysOf (rs ++ opRks rev os i))) := fun o' => by
              have h := (St.pk S10).alloc o'
              rw [hnk] at h
              exact h
            replace hown9 := hid hown9
            replace hgr9 := hid hgr9
            replace hat9 := hid hat9
            replace F9 := hid F9
            replace F8a := hid F8a
            replace hown8 := hid hown8
            replace hsz8 := hid hsz8
            replace S8b := hid S8b
            replace R8b := hid R8b
            replace F10 := hid F10
            replace E10 := hid E10
            replace S10 := hid S10
            replace R10 := hid R10
            replace T26b := hid T26b
            replace T10 := hid T10
            replace r10 := hid r10
            replace hw10 := hid hw10
            replace hρ10 := hid hρ10
            replace hnk := hid hnk
            replace hnke := hid hnke
            replace hw8a := hid hw8a
            replace hw8b := hid hw8b
            replace cEb := hid cEb
            refine wpAnyN_one (i := 7) (by kernel_rfl) rfl (by rfl) (fun K hK => ?_)
            go_simp
            refine hK.out _ _ (fun _ => SG w9 F9) ?_
            clear hK
            refine wpAnyN_one (i := 8) (by kernel_rfl) rfl (by rfl) (fun K hK => ?_)
            go_simp
            refine hK.out _ _ (fun h => absurd rfl h) ?_
            clear hK
            refine wpAnyN_done (by kernel_rfl) ?_ _
            refine NoPanic.normal ?_
            rw [← hw10]
            clear y1 y2
            go_wp2_with (first
              | (at_builtin; refine wpList_append_lies _ (by rfl) (.tmp 230) (.tmp 232) 40 (by rfl) 0 3 i3 (.int .i64 0) 1 8 Yba.underlying40 hi3 hb0 hb1 hb2 rfl (by decide) u11 nk (keysOf (rs ++ opRks rev os i)) (by rfl) (hown21 _) ⟨w10.heap.size, 0, none⟩ 1 1 [.int .i64 (o.k : Int)] (by rfl) (by rfl) (World.news_of_block (heapN _ _ _ (by simp))) (by intro u hu; simp at hu; subst hu; rfl) (by decide) q21 q22 (Nat.zero_le _) (w10.heap.size + 1) (by simp) ?_; intro g11 cap11 w11 hown11 hgr11 hat11 hlt11
                 obtain ⟨w10a, hw10a⟩ : ∃ w10a, w10a = w10.alloc (.cells #[.int .i64 (o.k : Int)] 3) := ⟨_, rfl⟩
                 have F10a : Fr (fun _ => False) ρ10 ρ10 w10 w10a := (by rw [hw10a]; exact (Fr.refl _ ρ10 w10).alloc _)
                 have hz10 : w10a.heap.size = w10.heap.size + 1 := (by rw [hw10a]; simp)
                 rw [← hw10a] at hgr11
                 obtain ⟨F11, S11⟩ := St.pushK (r := ⟨rev, (i : Int), o.k⟩) (St.keep S10 F10a) hgr11 (by rw [show (rs ++ opRks rev os i).length = nk from hnk]; exact hown11) (_root_.Or.imp id (fun e => by rw [hz10]; exact Nat.le_of_eq e.symm) hat11) hlt11
                 have R11 := Rows2.fr (Rows2.keep R10 F10a) F11 (by omega) (by omega) (by omega)
                 have T11 := F11.obj (F10a.obj T10 (fun e => e)) (by rw [show ρ10 w6.heap.size = 0 from r10]; omega)
                 have b0 : w11.cell? ⟨w6.heap.size, 0, none⟩ = some (.int .i64 rev) := obj_cell T11 0
                 have b1 : w11.cell? ⟨w6.heap.size, 1, none⟩ = some (.int .i64 (i : Int)) := obj_cell T11 1
                 have hown22 : ∀ o', Hid ((w11.alloc o').ownsRow 0 49 2 u12 nk (revsOf (rs ++ opRks rev os i))) := (fun o' => by
                   have h := (St.pr S11).alloc o'
                   rw [show (rs ++ opRks rev os i).length = nk from hnk] at h
                   exact h)
                 replace hw10a := hid hw10a
                 replace F10a := hid F10a
                 replace hz10 := hid hz10
                 replace hgr11 := hid hgr11
                 replace F11 := hid F11
                 replace S11 := hid S11
                 replace R11 := hid R11
                 replace T11 := hid T11
                 replace hown11 := hid hown11
                 replace hat11 := hid hat11)
              | (at_builtin; refine wpList_append_lies _ (by rfl) (.tmp 234) (.tmp 237) 41 (by rfl) 0 49 i49 (.agg #[.int .i64 0, .int .i64 0]) 2 16 Yba.underlying41 hi49 hc0 hc1 hc2 rfl (by decide) u12 nk (revsOf (rs ++ opRks rev os i)) (by rfl) (hown22 _) ⟨w11.heap.size, 0, none⟩ 1 1 [.int .i64 rev, .int .i64 (i : Int)] (by rfl) (by rfl) (World.news_of_block (heapN _ _ _ (by simp))) (by intro u hu; simp at hu; rcases hu with rfl | rfl <;> rfl) (by decide) q21 q23 (Nat.zero_le _) (w11.heap.size + 1) (by simp) ?_; intro g12 cap12 w12 hown12 hgr12 hat12 hlt12
                 obtain ⟨w11a, hw11a⟩ : ∃ w11a, w11a = w11.alloc (.cells #[.int .i64 rev, .int .i64 (i : Int)] 49) := ⟨_, rfl⟩
                 have F11a : Fr (fun _ => False) (upd ρ10 g11 3) (upd ρ10 g11 3) w11 w11a := (by rw [hw11a]; exact (Fr.refl _ _ w11).alloc _)
                 have hz11 : w11a.heap.size = w11.heap.size + 1 := (by rw [hw11a]; simp)
                 rw [← hw11a] at hgr12
                 obtain ⟨F12, S12⟩ := St.pushR (r := ⟨rev, (i : Int), o.k⟩) (St.keep S11 F11a) hgr12 (by rw [show (rs ++ opRks rev os i).length = nk from hnk]; exact hown12) (_root_.Or.imp id (fun e => by rw [hz11]; exact Nat.le_of_eq e.symm) hat12) hlt12
                 have R12 := Rows2.fr (Rows2.keep R11 F11a) F12 (by omega) (by omega) (by omega)
                 replace S12 := hid S12
                 replace R12 := hid R12
                 clear F12 hown12 hgr12 hat12 F11a hz11 hw11a))
            have S12' := S12
            rw [show (rs ++ opRks rev os i).length = nk from hnk, show rs ++ opRks rev os i ++ [⟨rev, (i : Int), o.k⟩] = rs ++ opRks rev os (i + 1) from by rw [List.append_assoc, show o = os i from ho]; rfl] at S12'
            have R12' : Rows2 w12 _ ob vb n (i + 1) os := R12
            refine ⟨⟨i + 1, _, hlt, by simp, ⟨S12', R12'⟩⟩, ?_⟩
            simp [intOf]
            omega
    · have k1 : ¬ ((i : Int) < (n : Int)) := by omega
      have hin' : i = n := by omega
      replace A1 := hid A1
      go_wp2
      rw [hin'] at A1
      exact hK _ _ A1
end Go.Proofs.Ybulkdljs
