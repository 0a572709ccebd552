/-
  The walk over LawS5621BWhole: its third loop.
-/
import Derived.Test.YbulkdljsLawEnd
namespace Go.Proofs.Ybulkdljs
open Go.RowKit
attribute [local go_sem ↓] ld56_fold
attribute [local go_sem] heapN heapP heapD setsN setsP setsD heapDN allocDN cellDN setsDN spl size_sets Value.oneCell'

theorem same_of (c : Chg) (cs : List Value) (hc : cs = c.cells) (w : World) :
    Calls Yba.prog 9 #[.agg cs.toArray, .agg cs.toArray] w fun e w' => e = .returned (.bool true) ∧ w' = (w.alloc (.cells cs.toArray 56)).alloc (.cells cs.toArray 56) := by
  subst hc
  exact same_any c.main c.sub c.create c.version c.addr c.size c.sum c.lease w

set_option linter.unusedSimpArgs false in
set_option maxRecDepth 100000 in
set_option maxHeartbeats 4000000 in
theorem loop3 {v0 v1 v2 v3 v4 v5 v6 v7 v8 v11 v12 v13 v14 v15 v16 v17 v18 v19 v20 v21 v22 v23 v24 v25 v26 v27 v28 v29 v30 v31 v32 v35 v36 v37 v38 v39 v40 v41 v42 v43 v44 v45 v46 v47 v48 v49 v50 v51 v52 v53 v54 v55 v56 v57 v58 v59 v60 v61 v62 v63 v64 v65 v66 v67 v68 v69 v70 v71 v72 v73 v74 v75 v76 v77 v78 v79 v80 v81 v82 v83 v84 v85 v86 v87 v88 v89 v90 v91 v92 v93 v94 v95 v96 v97 v98 v99 v100 v101 v102 v103 v104 v105 v106 v107 v108 v109 v110 v111 v112 v113 v114 v115 v116 v117 v118 v119 v120 v121 v122 v123 v124 v125 v126 v127 v128 v129 v130 v131 v132 v133 v134 v135 v136 v137 v138 v139 v140 v141 v142 v143 v144 v145 v146 v147 v148 v149 v150 v151 v152 v153 v154 v155 v156 v157 v158 v159 v160 v161 v162 v163 v164 v165 v166 v167 v168 v169 v170 v171 v172 v173 v174 v175 v176 v177 v178 v179 v180 v181 v182 v183 v184 v185 v186 v187 v188 v189 v190 v191 v192 v193 v194 v195 v196 v197 v198 v199 v200 v201 v202 v203 v204 v205 v206 v207 v208 v209 v210 v211 v212 v213 v214 v215 v216 v217 v218 v219 v220 v221 v222 v223 v224 v225 v226 v227 v228 v229 v230 v231 v232 v233 v234 v235 v236 v237 v238 v239 v240 v241 v242 v243 v244 v245 v246 v247 v248 v249 v250 v251 v252 v253 v254 v255 v256 v257 v258 v259 v260 v261 v262 v263 v264 v265 v266 v267 v268 v269 v270 v271 v272 v273 v274 v275 v276 v277 v278 v279 v280 v281 v282 v283 v284 v285 v286 v287 v288 v289 v290 v291 v292 v293 v294 v295 v296 v297 v298 v299 v300 v301 v302 v303 v304 v305 v306 v307 v308 v309 v310 v311 v312 v313 v314 v315 v316 v317 v318 v319 v320 v321 v322 v323 v324 v325 v326 v327 v328 v329 v330 v331 v332 v333 v334 v335 v336 v337 v338 v339 v340 v341 v342 v343 v344 v345 v346 v347 v348 v349 v350 v351 v352 v353 v354 v355 v356 v357 v358 v359 v360 v361 v362 v363 v364 v365 v366 v367 v368 v369 v370 v371 v372 v373 v374 v375 v376 v377 v378 v379 v380 v381 v382 v383 v384 v385 v386 v387 v388 v389 v390 v391 v392 v393 v394 v395 v396 v397 v398 v399 v400 v401 v402 v403 v404 v405 v406 v407 : Value} (X mb EB : Nat) (M : Nat → Option Nat) (L : Nat → List Chg) (pl : List Plc) (rs : List Rk) (rh rc vk vr : Value) (w0 w : World) (ρ : Nat → Nat) (K : Act → World → Prop) (Q' : Exit → Act → World → Prop)
    (h0 : Q3 w0 X mb EB M L pl rs rh rc vk vr w ρ)
    (hK : ∀ ⦃u8 u34 u35 u36 u37 u295 u296 u297 u298 u299 u300 u301 u302 u303 u304 u305 u306 u307 u308 u309 u310 u311 u312 u313 u314 u315 u316 u317 u318 u319 u320 u321 u322 u323 u324 u325 u326 u327 u328 u329 u330 u331 u332 u333 u334 u335 u336 u337 u338 u339 u340 u341 u342 u343 u344 u345 u346 u347 u348 u349 u350 u351 u352 u353 u354 u355 u356 u357 u358 u359 u360 u361 u362 u363 u364 u365 : Value⦄ (w' : World), Q3 w0 X mb EB M L pl rs rh rc vk vr w' ρ →
      K ⟨List.toArray (v0 :: v1 :: v2 :: v3 :: v4 :: v5 :: v6 :: v7 :: u8 :: .pointer (some ⟨X, 0, none⟩) :: .pointer (some ⟨EB, 0, none⟩) :: v11 :: v12 :: v13 :: v14 :: v15 :: v16 :: v17 :: v18 :: v19 :: v20 :: v21 :: v22 :: v23 :: v24 :: v25 :: v26 :: v27 :: v28 :: v29 :: v30 :: v31 :: v32 :: .int .i64 (count M : Int) :: u34 :: u35 :: u36 :: u37 :: v38 :: v39 :: v40 :: v41 :: v42 :: v43 :: v44 :: v45 :: v46 :: v47 :: v48 :: v49 :: v50 :: v51 :: v52 :: v53 :: v54 :: v55 :: v56 :: v57 :: v58 :: v59 :: v60 :: v61 :: v62 :: v63 :: v64 :: v65 :: v66 :: v67 :: v68 :: v69 :: v70 :: v71 :: v72 :: v73 :: v74 :: v75 :: v76 :: v77 :: v78 :: v79 :: v80 :: v81 :: v82 :: v83 :: v84 :: v85 :: v86 :: v87 :: v88 :: v89 :: v90 :: v91 :: v92 :: v93 :: v94 :: v95 :: v96 :: v97 :: v98 :: v99 :: v100 :: v101 :: v102 :: v103 :: v104 :: v105 :: v106 :: v107 :: v108 :: v109 :: v110 :: v111 :: v112 :: v113 :: v114 :: v115 :: v116 :: v117 :: v118 :: v119 :: v120 :: v121 :: v122 :: v123 :: v124 :: v125 :: v126 :: v127 :: v128 :: v129 :: v130 :: v131 :: v132 :: v133 :: v134 :: v135 :: v136 :: v137 :: v138 :: v139 :: v140 :: v141 :: v142 :: v143 :: v144 :: v145 :: v146 :: v147 :: v148 :: v149 :: v150 :: v151 :: v152 :: v153 :: v154 :: v155 :: v156 :: v157 :: v158 :: v159 :: v160 :: v161 :: v162 :: v163 :: v164 :: v165 :: v166 :: v167 :: v168 :: v169 :: v170 :: v171 :: v172 :: v173 :: v174 :: v175 :: v176 :: v177 :: v178 :: v179 :: v180 :: v181 :: v182 :: v183 :: v184 :: v185 :: v186 :: v187 :: v188 :: v189 :: v190 :: v191 :: v192 :: v193 :: v194 :: v195 :: v196 :: v197 :: v198 :: v199 :: v200 :: v201 :: v202 :: v203 :: v204 :: v205 :: v206 :: v207 :: v208 :: v209 :: v210 :: v211 :: v212 :: v213 :: v214 :: v215 :: v216 :: v217 :: v218 :: v219 :: v220 :: v221 :: v222 :: v223 :: v224 :: v225 :: v226 :: v227 :: v228 :: v229 :: v230 :: v231 :: v232 :: v233 :: v234 :: v235 :: v236 :: v237 :: v238 :: v239 :: v240 :: v241 :: v242 :: v243 :: v244 :: v245 :: v246 :: v247 :: v248 :: v249 :: v250 :: v251 :: v252 :: v253 :: v254 :: v255 :: v256 :: v257 :: v258 :: v259 :: v260 :: v261 :: v262 :: v263 :: v264 :: v265 :: v266 :: v267 :: v268 :: v269 :: v270 :: v271 :: v272 :: v273 :: v274 :: v275 :: v276 :: v277 :: v278 :: v279 :: v280 :: v281 :: v282 :: v283 :: v284 :: v285 :: v286 :: v287 :: v288 :: v289 :: v290 :: v291 :: v292 :: v293 :: v294 :: u295 :: u296 :: u297 :: u298 :: u299 :: u300 :: u301 :: u302 :: u303 :: u304 :: u305 :: u306 :: u307 :: u308 :: u309 :: u310 :: u311 :: u312 :: u313 :: u314 :: u315 :: u316 :: u317 :: u318 :: u319 :: u320 :: u321 :: u322 :: u323 :: u324 :: u325 :: u326 :: u327 :: u328 :: u329 :: u330 :: u331 :: u332 :: u333 :: u334 :: u335 :: u336 :: u337 :: u338 :: u339 :: u340 :: u341 :: u342 :: u343 :: u344 :: u345 :: u346 :: u347 :: u348 :: u349 :: u350 :: u351 :: u352 :: u353 :: u354 :: u355 :: u356 :: u357 :: u358 :: u359 :: u360 :: u361 :: u362 :: u363 :: u364 :: u365 :: v366 :: v367 :: v368 :: v369 :: v370 :: v371 :: v372 :: v373 :: v374 :: v375 :: v376 :: v377 :: v378 :: v379 :: v380 :: v381 :: v382 :: v383 :: v384 :: v385 :: v386 :: v387 :: v388 :: v389 :: v390 :: v391 :: v392 :: v393 :: v394 :: v395 :: v396 :: v397 :: v398 :: v399 :: v400 :: v401 :: v402 :: v403 :: v404 :: v405 :: v406 :: v407 :: []), []⟩ w') :
    Code.wp Yba.prog lp3 (Exit.inBlock 4 (Exit.then K Q')) ⟨List.toArray (v0 :: v1 :: v2 :: v3 :: v4 :: v5 :: v6 :: v7 :: v8 :: .pointer (some ⟨X, 0, none⟩) :: .pointer (some ⟨EB, 0, none⟩) :: v11 :: v12 :: v13 :: v14 :: v15 :: v16 :: v17 :: v18 :: v19 :: v20 :: v21 :: v22 :: v23 :: v24 :: v25 :: v26 :: v27 :: v28 :: v29 :: v30 :: v31 :: v32 :: .int .i64 0 :: .int .i64 0 :: v35 :: v36 :: v37 :: v38 :: v39 :: v40 :: v41 :: v42 :: v43 :: v44 :: v45 :: v46 :: v47 :: v48 :: v49 :: v50 :: v51 :: v52 :: v53 :: v54 :: v55 :: v56 :: v57 :: v58 :: v59 :: v60 :: v61 :: v62 :: v63 :: v64 :: v65 :: v66 :: v67 :: v68 :: v69 :: v70 :: v71 :: v72 :: v73 :: v74 :: v75 :: v76 :: v77 :: v78 :: v79 :: v80 :: v81 :: v82 :: v83 :: v84 :: v85 :: v86 :: v87 :: v88 :: v89 :: v90 :: v91 :: v92 :: v93 :: v94 :: v95 :: v96 :: v97 :: v98 :: v99 :: v100 :: v101 :: v102 :: v103 :: v104 :: v105 :: v106 :: v107 :: v108 :: v109 :: v110 :: v111 :: v112 :: v113 :: v114 :: v115 :: v116 :: v117 :: v118 :: v119 :: v120 :: v121 :: v122 :: v123 :: v124 :: v125 :: v126 :: v127 :: v128 :: v129 :: v130 :: v131 :: v132 :: v133 :: v134 :: v135 :: v136 :: v137 :: v138 :: v139 :: v140 :: v141 :: v142 :: v143 :: v144 :: v145 :: v146 :: v147 :: v148 :: v149 :: v150 :: v151 :: v152 :: v153 :: v154 :: v155 :: v156 :: v157 :: v158 :: v159 :: v160 :: v161 :: v162 :: v163 :: v164 :: v165 :: v166 :: v167 :: v168 :: v169 :: v170 :: v171 :: v172 :: v173 :: v174 :: v175 :: v176 :: v177 :: v178 :: v179 :: v180 :: v181 :: v182 :: v183 :: v184 :: v185 :: v186 :: v187 :: v188 :: v189 :: v190 :: v191 :: v192 :: v193 :: v194 :: v195 :: v196 :: v197 :: v198 :: v199 :: v200 :: v201 :: v202 :: v203 :: v204 :: v205 :: v206 :: v207 :: v208 :: v209 :: v210 :: v211 :: v212 :: v213 :: v214 :: v215 :: v216 :: v217 :: v218 :: v219 :: v220 :: v221 :: v222 :: v223 :: v224 :: v225 :: v226 :: v227 :: v228 :: v229 :: v230 :: v231 :: v232 :: v233 :: v234 :: v235 :: v236 :: v237 :: v238 :: v239 :: v240 :: v241 :: v242 :: v243 :: v244 :: v245 :: v246 :: v247 :: v248 :: v249 :: v250 :: v251 :: v252 :: v253 :: v254 :: v255 :: v256 :: v257 :: v258 :: v259 :: v260 :: v261 :: v262 :: v263 :: v264 :: v265 :: v266 :: v267 :: v268 :: v269 :: v270 :: v271 :: v272 :: v273 :: v274 :: v275 :: v276 :: v277 :: v278 :: v279 :: v280 :: v281 :: v282 :: v283 :: v284 :: v285 :: v286 :: v287 :: v288 :: v289 :: v290 :: v291 :: v292 :: v293 :: v294 :: v295 :: v296 :: v297 :: v298 :: v299 :: v300 :: v301 :: v302 :: v303 :: v304 :: v305 :: v306 :: v307 :: v308 :: v309 :: v310 :: v311 :: v312 :: v313 :: v314 :: v315 :: v316 :: v317 :: v318 :: v319 :: v320 :: v321 :: v322 :: v323 :: v324 :: v325 :: v326 :: v327 :: v328 :: v329 :: v330 :: v331 :: v332 :: v333 :: v334 :: v335 :: v336 :: v337 :: v338 :: v339 :: v340 :: v341 :: v342 :: v343 :: v344 :: v345 :: v346 :: v347 :: v348 :: v349 :: v350 :: v351 :: v352 :: v353 :: v354 :: v355 :: v356 :: v357 :: v358 :: v359 :: v360 :: v361 :: v362 :: v363 :: v364 :: v365 :: v366 :: v367 :: v368 :: v369 :: v370 :: v371 :: v372 :: v373 :: v374 :: v375 :: v376 :: v377 :: v378 :: v379 :: v380 :: v381 :: v382 :: v383 :: v384 :: v385 :: v386 :: v387 :: v388 :: v389 :: v390 :: v391 :: v392 :: v393 :: v394 :: v395 :: v396 :: v397 :: v398 :: v399 :: v400 :: v401 :: v402 :: v403 :: v404 :: v405 :: v406 :: v407 :: []), []⟩ w := by
  have hnot : ∀ (x : Bool) (w : World), (Op.unary .not (.bool x)).run Yba.prog w = .ok (.bool (!x)) w := fun _ _ => rfl
  replace hK := hid hK
  replace h0 := hid h0
  refine (show Code.wp Yba.prog (Code.loop _) _ _ _ from ?_)
  go_loopw [33, 34] (fun v33 v34 wr => ∃ (k : Nat), k ≤ 5 ∧ v34 = .int .i64 k ∧ v33 = .int .i64 (cntTo M k : Int) ∧ Hid (Q3 w0 X mb EB M L pl rs rh rc vk vr wr ρ)) (fun _ v34 _ => 5 - (intOf v34).toNat)
  case atStart => exact ⟨0, Nat.zero_le _, rfl, rfl, h0⟩
  case round =>
    obtain ⟨k, hk, rfl, rfl, A⟩ := hrel
    clear h0
    have A1 : Q3 w0 X mb EB M L pl rs rh rc vk vr wr ρ := A
    by_cases hlt : k < 5
    · have k1 : (k : Int) < 5 := by omega
      have k3 : (0 : Int) ≤ (k : Int) := by omega
      obtain ⟨vE, cE, fE, oE, gEr⟩ := A1.ex.cell hlt
      have cX : wr.cell? ⟨X, 0, none⟩ = some (.map (some mb)) := by
        obtain ⟨ov, tv, bl, n, ho, _⟩ := A1.ix.x
        exact obj_cell ho 0
      have hlk := A1.ix.map.look hlt
      have ka := hid (key_any k hlt)
      have hcl := cntTo_le M k
      cases hMk : M k with
      | none =>
        have hLk : L k = [] := (A1.iff k hlt).1 hMk
        obtain ⟨ae, ce, hvE⟩ := form_any oE
        rw [hLk] at hvE
        have cE2 : wr.cell? ⟨EB, k, none⟩ = some (.slice ae 0 ce) := by rw [cE, hvE]; rfl
        rw [hMk] at hlk
        simp only [ptrOf] at hlk
        have ecn : cntTo M (k + 1) = cntTo M k := by simp [cntTo, hMk]
        replace A1 := hid A1
        replace oE := hid oE
        replace gEr := hid gEr
        replace fE := hid fE
        replace hvE := hid hvE
        replace hLk := hid hLk
        replace hMk := hid hMk
        replace ecn := hid ecn
        clear cE
        go_wp2_with (first | (go_at_call 5; refine Calls.mono (ka _) ?_; rintro e w' ⟨rfl, hw'⟩; rw [hw']))
        refine ⟨⟨k + 1, hlt, by simp, by rw [show cntTo M (k + 1) = cntTo M k from ecn], A1⟩, ?_⟩
        simp [intOf]
        omega
      | some hb =>
        rw [hMk] at hlk
        simp only [ptrOf] at hlk
        obtain ⟨hhr, v, hho, hhw, hhg⟩ := A1.ix.his k hb hlt hMk
        have hne : L k ≠ [] := fun e => by
          have := (A1.iff k hlt).2 e
          rw [hMk] at this
          cases this
        obtain ⟨nl, hnl⟩ : ∃ nl, (L k).length = nl := ⟨_, rfl⟩
        have hnl0 : 0 < nl := by rw [← hnl]; exact List.length_pos_iff.2 hne
        have hnlb : nl ≤ 266240 := by rw [← hnl]; exact A1.lenL k
        rw [hnl] at oE hhw
        obtain ⟨gE, ce, hvE, _, _⟩ := oE.form (by omega)
        obtain ⟨gh, ch, hv, _, _⟩ := hhw.form (by omega)
        subst hvE
        subst hv
        have hz : ¬ ((nl : Int) = 0) := by omega
        have hzb := hid (show ((nl : Int) == 0) = false from beq_eq_false_iff_ne.mpr hz)
        have b0 : wr.cell? ⟨hb, 0, none⟩ = some (.string (keyS k)) := obj_cell hho 0
        have b1 : wr.cell? ⟨hb, 1, none⟩ = some (.slice (some ⟨gh, 0, none⟩) nl ch) := obj_cell hho 1
        have b2 : wr.cell? ⟨hb, 2, none⟩ = some (.int .i64 0) := obj_cell hho 2
        have ecn : cntTo M (k + 1) = cntTo M k + 1 := by simp [cntTo, hMk]
        obtain ⟨cn, hcn⟩ : ∃ cn, cn = cntTo M k := ⟨_, rfl⟩
        rw [← hcn] at hcl ecn ⊢
        have hcb : cn ≤ 5 := by omega
        replace A1 := hid A1
        replace oE := hid oE
        replace gEr := hid gEr
        replace fE := hid fE
        replace hhr := hid hhr
        replace hho := hid hho
        replace hhw := hid hhw
        replace hhg := hid hhg
        replace hne := hid hne
        replace hnl := hid hnl
        replace hMk := hid hMk
        replace ecn := hid ecn
        replace hcn := hid hcn
        go_wp2_with (first | (go_at_call 5; refine Calls.mono (ka _) ?_; rintro e w' ⟨rfl, hw'⟩; rw [hw']))
        go_quiet (fail)
        go_wp2
        obtain ⟨wo, hwo⟩ : ∃ wo, wo = wr := ⟨wr, rfl⟩
        subst hwo
        obtain ⟨W, hW⟩ : ∃ W, W = wo.drewN nq := ⟨_, rfl⟩
        have FW : Fr (fun _ => False) ρ ρ wo W := by rw [hW]; exact (Fr.refl _ ρ wo).drewN nq
        rw [← hW, show ((nl : Int) == 0) = false from hzb]
        have b1' := hid b1
        have cE' := hid cE
        clear b0 b1 b2 cE cX hlk
        replace hW := hid hW
        replace FW := hid FW
        go_loopw [347] (fun v347 wx => ∃ (j : Nat), j ≤ nl ∧ v347 = .int .i64 j ∧ Hid (Fr (fun _ => False) ρ ρ wo wx)) (fun v347 _ => nl - (intOf v347).toNat)
        case atStart => exact ⟨0, Nat.zero_le _, rfl, FW⟩
        case round =>
          obtain ⟨j, hj, rfl, FX⟩ := hrel
          have FX' : Fr (fun _ => False) ρ ρ wo wr := FX
          by_cases hjl : j < nl
          · have m1 : (j : Int) < (nl : Int) := by omega
            have m3 : (0 : Int) ≤ (j : Int) := by omega
            have hjL : j < (L k).length := by rw [show (L k).length = nl from hnl]; exact hjl
            obtain ⟨c, hc⟩ : ∃ c, (L k)[j]? = some c := ⟨_, List.getElem?_eq_getElem hjL⟩
            obtain ⟨cs, hcs⟩ : ∃ cs, cs = c.cells := ⟨_, rfl⟩
            have hlen : cs.length = 24 := by rw [hcs]; rfl
            have rH : wr.rangeAt gh (j * 24) cs := by rw [hcs]; exact FX'.range (row_at hhw hc) (fun e => e)
            have rE : wr.rangeAt gE (j * 24) cs := by rw [hcs]; exact FX'.range (row_at oE hc) (fun e => e)
            have q1 : wr.cell? ⟨hb, 1, none⟩ = some (.slice (some ⟨gh, 0, none⟩) nl ch) := FX'.cell b1' (fun e => e)
            have q2 : wr.cell? ⟨EB, k, none⟩ = some (.slice (some ⟨gE, 0, none⟩) nl ce) := FX'.cell cE' (fun e => e)
            have lH : ∀ w' : World, w'.rangeAt gh (j * 24) cs → (ldT 56 (.pointer (some ⟨gh, j * 24, none⟩))).run Yba.prog w' = .ok (.agg cs.toArray) w' := fun w' h => ld56_mid h hlen
            have lE : ∀ w' : World, w'.rangeAt gE (j * 24) cs → (ldT 56 (.pointer (some ⟨gE, j * 24, none⟩))).run Yba.prog w' = .ok (.agg cs.toArray) w' := fun w' h => ld56_mid h hlen
            have KS : ∀ w', Fr (fun _ => False) ρ ρ wr w' → w'.cell? ⟨hb, 1, none⟩ = some (.slice (some ⟨gh, 0, none⟩) nl ch) ∧ w'.cell? ⟨EB, k, none⟩ = some (.slice (some ⟨gE, 0, none⟩) nl ce) ∧ w'.rangeAt gh (j * 24) cs ∧ w'.rangeAt gE (j * 24) cs := fun w' h => ⟨h.cell q1 (fun e => e), h.cell q2 (fun e => e), h.range rH (fun e => e), h.range rE (fun e => e)⟩
            have K0 : ∀ w', Same wr w' → w'.cell? ⟨hb, 1, none⟩ = some (.slice (some ⟨gh, 0, none⟩) nl ch) ∧ w'.cell? ⟨EB, k, none⟩ = some (.slice (some ⟨gE, 0, none⟩) nl ce) ∧ w'.rangeAt gh (j * 24) cs ∧ w'.rangeAt gE (j * 24) cs := fun w' hs => KS w' ⟨hs.os, hs.tape, hs.output, by rw [hs.heap]; exact Nat.le_refl _, fun b _ _ => by rw [hs.heap], fun _ _ => rfl, fun ht b hb => ht b (by rw [← hs.heap]; exact hb)⟩
            have F9 : ∀ w9, w9 = ((wr.drewN 1).alloc (.cells cs.toArray 56)).alloc (.cells cs.toArray 56) → Fr (fun _ => False) ρ ρ wr w9 := fun w9 e => by rw [e]; exact (((Fr.refl _ ρ wr).drewN 1).alloc _).alloc _
            have K1 : ∀ w9, w9 = ((wr.drewN 1).alloc (.cells cs.toArray 56)).alloc (.cells cs.toArray 56) → w9.cell? ⟨hb, 1, none⟩ = some (.slice (some ⟨gh, 0, none⟩) nl ch) ∧ w9.cell? ⟨EB, k, none⟩ = some (.slice (some ⟨gE, 0, none⟩) nl ce) ∧ w9.rangeAt gh (j * 24) cs ∧ w9.rangeAt gE (j * 24) cs := fun w9 e => KS w9 (F9 w9 e)
            have sa := hid (same_of c cs hcs (wr.drewN 1))
            replace hjL := hid hjL
            replace hc := hid hc
            replace hcs := hid hcs
            replace hlen := hid hlen
            replace rH := hid rH
            replace rE := hid rE
            replace KS := hid KS
            replace K0 := hid K0
            replace K1 := hid K1
            replace F9 := hid F9
            replace FX' := hid FX'
            go_wp2
            go_region_held3 (fun w' => w'.cell? ⟨hb, 1, none⟩ = some (.slice (some ⟨gh, 0, none⟩) nl ch) ∧ w'.cell? ⟨EB, k, none⟩ = some (.slice (some ⟨gE, 0, none⟩) nl ce) ∧ w'.rangeAt gh (j * 24) cs ∧ w'.rangeAt gE (j * 24) cs)
              (first | exact K1 _ hq | exact K0 _ ⟨rfl, rfl, rfl, rfl⟩)
              (first | (go_at_call 9; refine Calls.mono sa ?_; intro e w9 hq; obtain ⟨rfl, hq⟩ := hq; replace hq := hid hq))
            go_wp2
            refine ⟨⟨j + 1, hjl, by simp, Fr.trans FX' (F9 _ hq)⟩, ?_⟩
            simp [intOf]
            omega
          · have m1 : ¬ ((j : Int) < (nl : Int)) := by omega
            replace FX' := hid FX'
            go_wp2
            refine ⟨⟨k + 1, hlt, by simp, ?_, Q3.keep A1 FX'⟩, ?_⟩
            · rw [show cntTo M (k + 1) = cn + 1 from ecn]; simp
            · simp [intOf]
              omega
    · have k1 : ¬ ((k : Int) < 5) := by omega
      have hk5 : k = 5 := by omega
      rw [hk5, cntTo_five]
      replace A1 := hid A1
      go_wp2
      exact hK _ A1
end Go.Proofs.Ybulkdljs
