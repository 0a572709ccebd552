/-
  The walk over LawS5621BWhole: its last loop.
-/
import Derived.Test.YbulkdljsLawEnd
import Derived.LaidEqlPtr
namespace Go.Proofs.Ybulkdljs
open Go.RowKit
attribute [local go_sem ↓] ld59_fold
attribute [local go_sem] heapN heapP heapD setsN setsP setsD heapDN allocDN cellDN setsDN spl size_sets Value.oneCell'

theorem neq45 (b : Nat) (w : World) : (binOp .neq 45 (.pointer (some ⟨b, 0, none⟩)) (.pointer (some ⟨b, 0, none⟩))).run Yba.prog w = .ok (.bool false) w := by
  obtain ⟨i, hi⟩ : ∃ i, Yba.prog.info? 47 = some i := by
    cases h : Yba.prog.info? 47 with
    | none => exact absurd (show (Yba.prog.info? 47).isSome = true by kernel_rfl) (by rw [h]; simp)
    | some i => exact ⟨i, rfl⟩
  have h : ∀ d : Nat, (Op.equalIn (d + 1) 45 (.pointer (some ⟨b, 0, none⟩)) (.pointer (some ⟨b, 0, none⟩))).run Yba.prog w = .ok true w := fun d => by
    simp [Op.equalIn, run_underlying Yba.underlying45, sizeOf, typeInfo, hi, run_sameAddr_same]
  simp only [binOp]
  simp [Op.equal, Op.maxDepth, h 9999]

set_option linter.unusedSimpArgs false in
set_option maxRecDepth 100000 in
set_option maxHeartbeats 4000000 in
theorem loop5 {v0 v1 v2 v3 v4 v5 v6 v7 v8 v13 v14 v15 v16 v17 v18 v19 v20 v21 v22 v23 v24 v25 v26 v27 v28 v29 v30 v31 v33 v34 v35 v36 v37 v39 v40 v41 v42 v43 v44 v45 v46 v47 v48 v49 v50 v51 v52 v53 v54 v55 v56 v57 v58 v59 v60 v61 v62 v63 v64 v65 v66 v67 v68 v69 v70 v71 v72 v73 v74 v75 v76 v77 v78 v79 v80 v81 v82 v83 v84 v85 v86 v87 v88 v89 v90 v91 v92 v93 v94 v95 v96 v97 v98 v99 v100 v101 v102 v103 v104 v105 v106 v107 v108 v109 v110 v111 v112 v113 v114 v115 v116 v117 v118 v119 v120 v121 v122 v123 v124 v125 v126 v127 v128 v129 v130 v131 v132 v133 v134 v135 v136 v137 v138 v139 v140 v141 v142 v143 v144 v145 v146 v147 v148 v149 v150 v151 v152 v153 v154 v155 v156 v157 v158 v159 v160 v161 v162 v163 v164 v165 v166 v167 v168 v169 v170 v171 v172 v173 v174 v175 v176 v177 v178 v179 v180 v181 v182 v183 v184 v185 v186 v187 v188 v189 v190 v191 v192 v193 v194 v195 v196 v197 v198 v199 v200 v201 v202 v203 v204 v205 v206 v207 v208 v209 v210 v211 v212 v213 v214 v215 v216 v217 v218 v219 v220 v221 v222 v223 v224 v225 v226 v227 v228 v229 v230 v231 v232 v233 v234 v235 v236 v237 v238 v239 v240 v241 v242 v243 v244 v245 v246 v247 v248 v249 v250 v251 v252 v253 v254 v255 v256 v257 v258 v259 v260 v261 v262 v263 v264 v265 v266 v267 v268 v269 v270 v271 v272 v273 v274 v275 v276 v277 v278 v279 v280 v281 v282 v283 v284 v285 v286 v287 v288 v289 v290 v291 v292 v293 v294 v295 v296 v297 v298 v299 v300 v301 v302 v303 v304 v305 v306 v307 v308 v309 v310 v311 v312 v313 v314 v315 v316 v317 v318 v319 v320 v321 v322 v323 v324 v325 v326 v327 v328 v329 v330 v331 v332 v333 v334 v335 v336 v337 v338 v339 v340 v341 v342 v343 v344 v345 v346 v347 v348 v349 v350 v351 v352 v353 v354 v355 v356 v357 v358 v359 v360 v361 v362 v363 v364 v365 v366 v367 v368 v369 v370 v371 v372 v373 v374 v375 v376 v377 v378 v379 v380 v381 v382 v383 v384 v385 v386 v387 v388 v389 v390 v391 v392 v393 v394 v395 v396 v397 v398 v399 v400 v401 v402 v403 v404 v405 v406 v407 : Value} (X mb EB tt : Nat) (M : Nat → Option Nat) (L : Nat → List Chg) (pl : List Plc) (rs : List Rk) (rh rc vk vr : Value) (w0 w : World) (ρ : Nat → Nat) (K : Act → World → Prop) (Q' : Exit → Act → World → Prop)
    (htt : tt = pl.length) (hrk : ∀ (i : Nat) (r : Rk), rs[i]? = some r → r.k < 5) (h0 : Q3 w0 X mb EB M L pl rs rh rc vk vr w ρ)
    (hK : ∀ ⦃u8 u38 u39 u371 u372 u373 u374 u375 u376 u377 u378 u379 u380 u381 u382 u383 u384 u385 u386 u387 u388 u389 u390 u391 u392 u393 u394 u395 u396 u397 u398 u399 u400 u401 u402 u403 u404 u405 u406 u407 : Value⦄ (w' : World), Q3 w0 X mb EB M L pl rs rh rc vk vr w' ρ →
      K ⟨List.toArray (v0 :: v1 :: v2 :: v3 :: v4 :: v5 :: v6 :: v7 :: u8 :: .pointer (some ⟨X, 0, none⟩) :: .pointer (some ⟨EB, 0, none⟩) :: vk :: vr :: v13 :: v14 :: v15 :: v16 :: v17 :: v18 :: v19 :: v20 :: v21 :: v22 :: v23 :: v24 :: v25 :: v26 :: v27 :: v28 :: v29 :: v30 :: v31 :: .int .i64 (tt : Int) :: v33 :: v34 :: v35 :: v36 :: v37 :: u38 :: u39 :: v40 :: v41 :: v42 :: v43 :: v44 :: v45 :: v46 :: v47 :: v48 :: v49 :: v50 :: v51 :: v52 :: v53 :: v54 :: v55 :: v56 :: v57 :: v58 :: v59 :: v60 :: v61 :: v62 :: v63 :: v64 :: v65 :: v66 :: v67 :: v68 :: v69 :: v70 :: v71 :: v72 :: v73 :: v74 :: v75 :: v76 :: v77 :: v78 :: v79 :: v80 :: v81 :: v82 :: v83 :: v84 :: v85 :: v86 :: v87 :: v88 :: v89 :: v90 :: v91 :: v92 :: v93 :: v94 :: v95 :: v96 :: v97 :: v98 :: v99 :: v100 :: v101 :: v102 :: v103 :: v104 :: v105 :: v106 :: v107 :: v108 :: v109 :: v110 :: v111 :: v112 :: v113 :: v114 :: v115 :: v116 :: v117 :: v118 :: v119 :: v120 :: v121 :: v122 :: v123 :: v124 :: v125 :: v126 :: v127 :: v128 :: v129 :: v130 :: v131 :: v132 :: v133 :: v134 :: v135 :: v136 :: v137 :: v138 :: v139 :: v140 :: v141 :: v142 :: v143 :: v144 :: v145 :: v146 :: v147 :: v148 :: v149 :: v150 :: v151 :: v152 :: v153 :: v154 :: v155 :: v156 :: v157 :: v158 :: v159 :: v160 :: v161 :: v162 :: v163 :: v164 :: v165 :: v166 :: v167 :: v168 :: v169 :: v170 :: v171 :: v172 :: v173 :: v174 :: v175 :: v176 :: v177 :: v178 :: v179 :: v180 :: v181 :: v182 :: v183 :: v184 :: v185 :: v186 :: v187 :: v188 :: v189 :: v190 :: v191 :: v192 :: v193 :: v194 :: v195 :: v196 :: v197 :: v198 :: v199 :: v200 :: v201 :: v202 :: v203 :: v204 :: v205 :: v206 :: v207 :: v208 :: v209 :: v210 :: v211 :: v212 :: v213 :: v214 :: v215 :: v216 :: v217 :: v218 :: v219 :: v220 :: v221 :: v222 :: v223 :: v224 :: v225 :: v226 :: v227 :: v228 :: v229 :: v230 :: v231 :: v232 :: v233 :: v234 :: v235 :: v236 :: v237 :: v238 :: v239 :: v240 :: v241 :: v242 :: v243 :: v244 :: v245 :: v246 :: v247 :: v248 :: v249 :: v250 :: v251 :: v252 :: v253 :: v254 :: v255 :: v256 :: v257 :: v258 :: v259 :: v260 :: v261 :: v262 :: v263 :: v264 :: v265 :: v266 :: v267 :: v268 :: v269 :: v270 :: v271 :: v272 :: v273 :: v274 :: v275 :: v276 :: v277 :: v278 :: v279 :: v280 :: v281 :: v282 :: v283 :: v284 :: v285 :: v286 :: v287 :: v288 :: v289 :: v290 :: v291 :: v292 :: v293 :: v294 :: v295 :: v296 :: v297 :: v298 :: v299 :: v300 :: v301 :: v302 :: v303 :: v304 :: v305 :: v306 :: v307 :: v308 :: v309 :: v310 :: v311 :: v312 :: v313 :: v314 :: v315 :: v316 :: v317 :: v318 :: v319 :: v320 :: v321 :: v322 :: v323 :: v324 :: v325 :: v326 :: v327 :: v328 :: v329 :: v330 :: v331 :: v332 :: v333 :: v334 :: v335 :: v336 :: v337 :: v338 :: v339 :: v340 :: v341 :: v342 :: v343 :: v344 :: v345 :: v346 :: v347 :: v348 :: v349 :: v350 :: v351 :: v352 :: v353 :: v354 :: v355 :: v356 :: v357 :: v358 :: v359 :: v360 :: v361 :: v362 :: v363 :: v364 :: v365 :: v366 :: v367 :: v368 :: v369 :: v370 :: u371 :: u372 :: u373 :: u374 :: u375 :: u376 :: u377 :: u378 :: u379 :: u380 :: u381 :: u382 :: u383 :: u384 :: u385 :: u386 :: u387 :: u388 :: u389 :: u390 :: u391 :: u392 :: u393 :: u394 :: u395 :: u396 :: u397 :: u398 :: u399 :: u400 :: u401 :: u402 :: u403 :: u404 :: u405 :: u406 :: u407 :: []), []⟩ w') :
    Code.wp Yba.prog lp5 (Exit.inBlock 8 (Exit.then K Q')) ⟨List.toArray (v0 :: v1 :: v2 :: v3 :: v4 :: v5 :: v6 :: v7 :: v8 :: .pointer (some ⟨X, 0, none⟩) :: .pointer (some ⟨EB, 0, none⟩) :: vk :: vr :: v13 :: v14 :: v15 :: v16 :: v17 :: v18 :: v19 :: v20 :: v21 :: v22 :: v23 :: v24 :: v25 :: v26 :: v27 :: v28 :: v29 :: v30 :: v31 :: .int .i64 (tt : Int) :: v33 :: v34 :: v35 :: v36 :: v37 :: .int .i64 0 :: v39 :: v40 :: v41 :: v42 :: v43 :: v44 :: v45 :: v46 :: v47 :: v48 :: v49 :: v50 :: v51 :: v52 :: v53 :: v54 :: v55 :: v56 :: v57 :: v58 :: v59 :: v60 :: v61 :: v62 :: v63 :: v64 :: v65 :: v66 :: v67 :: v68 :: v69 :: v70 :: v71 :: v72 :: v73 :: v74 :: v75 :: v76 :: v77 :: v78 :: v79 :: v80 :: v81 :: v82 :: v83 :: v84 :: v85 :: v86 :: v87 :: v88 :: v89 :: v90 :: v91 :: v92 :: v93 :: v94 :: v95 :: v96 :: v97 :: v98 :: v99 :: v100 :: v101 :: v102 :: v103 :: v104 :: v105 :: v106 :: v107 :: v108 :: v109 :: v110 :: v111 :: v112 :: v113 :: v114 :: v115 :: v116 :: v117 :: v118 :: v119 :: v120 :: v121 :: v122 :: v123 :: v124 :: v125 :: v126 :: v127 :: v128 :: v129 :: v130 :: v131 :: v132 :: v133 :: v134 :: v135 :: v136 :: v137 :: v138 :: v139 :: v140 :: v141 :: v142 :: v143 :: v144 :: v145 :: v146 :: v147 :: v148 :: v149 :: v150 :: v151 :: v152 :: v153 :: v154 :: v155 :: v156 :: v157 :: v158 :: v159 :: v160 :: v161 :: v162 :: v163 :: v164 :: v165 :: v166 :: v167 :: v168 :: v169 :: v170 :: v171 :: v172 :: v173 :: v174 :: v175 :: v176 :: v177 :: v178 :: v179 :: v180 :: v181 :: v182 :: v183 :: v184 :: v185 :: v186 :: v187 :: v188 :: v189 :: v190 :: v191 :: v192 :: v193 :: v194 :: v195 :: v196 :: v197 :: v198 :: v199 :: v200 :: v201 :: v202 :: v203 :: v204 :: v205 :: v206 :: v207 :: v208 :: v209 :: v210 :: v211 :: v212 :: v213 :: v214 :: v215 :: v216 :: v217 :: v218 :: v219 :: v220 :: v221 :: v222 :: v223 :: v224 :: v225 :: v226 :: v227 :: v228 :: v229 :: v230 :: v231 :: v232 :: v233 :: v234 :: v235 :: v236 :: v237 :: v238 :: v239 :: v240 :: v241 :: v242 :: v243 :: v244 :: v245 :: v246 :: v247 :: v248 :: v249 :: v250 :: v251 :: v252 :: v253 :: v254 :: v255 :: v256 :: v257 :: v258 :: v259 :: v260 :: v261 :: v262 :: v263 :: v264 :: v265 :: v266 :: v267 :: v268 :: v269 :: v270 :: v271 :: v272 :: v273 :: v274 :: v275 :: v276 :: v277 :: v278 :: v279 :: v280 :: v281 :: v282 :: v283 :: v284 :: v285 :: v286 :: v287 :: v288 :: v289 :: v290 :: v291 :: v292 :: v293 :: v294 :: v295 :: v296 :: v297 :: v298 :: v299 :: v300 :: v301 :: v302 :: v303 :: v304 :: v305 :: v306 :: v307 :: v308 :: v309 :: v310 :: v311 :: v312 :: v313 :: v314 :: v315 :: v316 :: v317 :: v318 :: v319 :: v320 :: v321 :: v322 :: v323 :: v324 :: v325 :: v326 :: v327 :: v328 :: v329 :: v330 :: v331 :: v332 :: v333 :: v334 :: v335 :: v336 :: v337 :: v338 :: v339 :: v340 :: v341 :: v342 :: v343 :: v344 :: v345 :: v346 :: v347 :: v348 :: v349 :: v350 :: v351 :: v352 :: v353 :: v354 :: v355 :: v356 :: v357 :: v358 :: v359 :: v360 :: v361 :: v362 :: v363 :: v364 :: v365 :: v366 :: v367 :: v368 :: v369 :: v370 :: v371 :: v372 :: v373 :: v374 :: v375 :: v376 :: v377 :: v378 :: v379 :: v380 :: v381 :: v382 :: v383 :: v384 :: v385 :: v386 :: v387 :: v388 :: v389 :: v390 :: v391 :: v392 :: v393 :: v394 :: v395 :: v396 :: v397 :: v398 :: v399 :: v400 :: v401 :: v402 :: v403 :: v404 :: v405 :: v406 :: v407 :: []), []⟩ w := by
  have htb : tt ≤ 266240 := by rw [htt]; exact h0.lenP
  replace hK := hid hK
  replace h0 := hid h0
  replace hrk := hid hrk
  replace htt := hid htt
  refine (show Code.wp Yba.prog (Code.loop _) _ _ _ from ?_)
  go_loopw [38] (fun v38 wr => ∃ (i : Nat), i ≤ tt ∧ v38 = .int .i64 i ∧ Hid (Q3 w0 X mb EB M L pl rs rh rc vk vr wr ρ)) (fun v38 _ => tt - (intOf v38).toNat)
  case atStart => exact ⟨0, Nat.zero_le _, rfl, h0⟩
  case round =>
    obtain ⟨i, hi, rfl, A⟩ := hrel
    clear h0
    have A1 : Q3 w0 X mb EB M L pl rs rh rc vk vr wr ρ := A
    by_cases hlt : i < tt
    · have k1 : (i : Int) < (tt : Int) := by omega
      have k3 : (0 : Int) ≤ (i : Int) := by omega
      have hil : i < pl.length := by rw [← show tt = pl.length from htt]; exact hlt
      have hpi : pl[i]? = some (pl[i]'hil) := List.getElem?_eq_getElem hil
      obtain ⟨p, hp⟩ : ∃ p, p = pl[i]'hil := ⟨_, rfl⟩
      rw [← hp] at hpi
      obtain ⟨r, hr, pm, psb, hMr⟩ := A1.pls i p hpi
      have hk5 : r.k < 5 := hrk i r hr
      obtain ⟨gt, capt, d, x2, xd, hqn, hrg⟩ := A1.ix.place hpi
      have hlr : rs.length = tt := by rw [← A1.len]; exact (show tt = pl.length from htt).symm
      obtain ⟨gk, ck, ek, _, _⟩ := A1.pk.form (by omega)
      obtain ⟨gr, cr, er, _, _⟩ := A1.pr.form (by omega)
      subst ek
      subst er
      obtain ⟨q, hq⟩ : ∃ q, q = i / 1024 := ⟨_, rfl⟩
      obtain ⟨m, hm⟩ : ∃ m, m = i % 1024 := ⟨_, rfl⟩
      rw [← hq] at xd hqn
      rw [← hm] at hrg
      obtain ⟨nb, hnb⟩ : ∃ nb, nb = (pl.length + 1023) / 1024 := ⟨_, rfl⟩
      rw [← hnb] at x2 hqn
      have j1 : Int.tdiv (i : Int) 1024 = (q : Int) := by rw [Int.tdiv_eq_ediv_of_nonneg k3, hq]; omega
      have j2 : (i : Int) / 1024 = (q : Int) := by rw [hq]; omega
      have j3 : Int.tmod (i : Int) 1024 = (m : Int) := by rw [Int.tmod_eq_emod_of_nonneg k3, hm]; omega
      have j4 : (i : Int) % 1024 = (m : Int) := by rw [hm]; omega
      have j5 : (q : Int) < (nb : Int) := by omega
      have j6 : (0 : Int) ≤ (q : Int) := by omega
      have j7 : (m : Int) < 1024 := by omega
      have j8 : (0 : Int) ≤ (m : Int) := by omega
      have l59 : (ldT 59 (.pointer (some ⟨d, m * 3, none⟩))).run Yba.prog wr = .ok (.agg #[.int .i64 r.main, .int .i64 r.sub, .pointer (some ⟨p.h, 0, none⟩)]) wr := by
        rw [← pm, ← psb]
        exact ld59_mid hrg rfl
      obtain ⟨w1, hw1⟩ : ∃ w1, w1 = wr.alloc (.cells #[.int .i64 r.main, .int .i64 r.sub, .pointer (some ⟨p.h, 0, none⟩)] 59) := ⟨_, rfl⟩
      have F1 : Fr (fun _ => False) ρ ρ wr w1 := by rw [hw1]; exact (Fr.refl _ ρ wr).alloc _
      have S1 := A1.keep F1
      have T39 : objAt w1 wr.heap.size = some (.cells #[.int .i64 r.main, .int .i64 r.sub, .pointer (some ⟨p.h, 0, none⟩)] 59 (0, 0)) := by rw [hw1]; exact heapN _ _ _ rfl
      have y0 : w1.cell? ⟨wr.heap.size, 0, none⟩ = some (.int .i64 r.main) := obj_cell T39 0
      have y1 : w1.cell? ⟨wr.heap.size, 1, none⟩ = some (.int .i64 r.sub) := obj_cell T39 1
      have y2 : w1.cell? ⟨wr.heap.size, 2, none⟩ = some (.pointer (some ⟨p.h, 0, none⟩)) := obj_cell T39 2
      have z0 : w1.cell? ⟨gr, i * 2, none⟩ = some (.int .i64 r.main) := revs_at S1.pr hr 0 _ rfl
      have z1 : w1.cell? ⟨gr, i * 2 + 1, none⟩ = some (.int .i64 r.sub) := revs_at S1.pr hr 1 _ rfl
      have z2 : w1.cell? ⟨gk, i, none⟩ = some (.int .i64 (r.k : Int)) := row_cell S1.pk (by unfold keysOf; rw [List.getElem?_map, hr]; rfl)
      have cX : w1.cell? ⟨X, 0, none⟩ = some (.map (some mb)) := by
        obtain ⟨ov, tv, bl, n, ho, _⟩ := S1.ix.x
        exact obj_cell ho 0
      have hlk : ∀ q, (Instr.lookup 24 (.map (some mb)) (.string (keyS r.k)) false).run Yba.prog (w1.drewN q) = .ok (.pointer (some ⟨p.h, 0, none⟩)) (w1.drewN q) := fun q => by
        have h := (S1.ix.map.same (Same.drewN w1 q)).look hk5
        rw [hMr] at h
        exact h
      have hl0 := hlk 0
      have hl1 := hlk 1
      rw [World.drewN_zero] at hl0
      rw [← World.drew_is_drewN] at hl1
      have B1 := S1
      rw [hlr] at B1
      have hpe := neq45 p.h
      rw [hlr]
      clear hqn hp hil
      replace A1 := hid A1
      replace hpi := hid hpi
      replace hr := hid hr
      replace pm := hid pm
      replace psb := hid psb
      replace hMr := hid hMr
      replace hlr := hid hlr
      replace hq := hid hq
      replace hm := hid hm
      replace hnb := hid hnb
      replace hw1 := hid hw1
      replace F1 := hid F1
      replace S1 := hid S1
      replace T39 := hid T39
      replace hrg := hid hrg
      replace B1 := hid B1
      go_wp2
      rw [← hw1]
      go_quiet (first | (go_at_call 5; exact Calls.quiet_of_same (key_any r.k hk5 _)))
      go_wp2
      refine ⟨⟨i + 1, hlt, by simp, Q3.keep B1 ((Fr.refl _ ρ w1).drewN _)⟩, ?_⟩
      simp [intOf]
      omega
    · have k1 : ¬ ((i : Int) < (tt : Int)) := by omega
      replace A1 := hid A1
      go_wp2
      exact hK _ A1
end Go.Proofs.Ybulkdljs
