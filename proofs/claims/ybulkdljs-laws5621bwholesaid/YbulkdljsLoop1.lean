/-
  The walk over LawS5621BWhole: its first loop.
-/
import Derived.Test.YbulkdljsLawBase
namespace Go.Proofs.Ybulkdljs
open Go.RowKit
attribute [local go_sem ↓] ld56_fold st56_fold
attribute [local go_sem] st56_whole ld56_whole whole_ok wstore_ok heapN heapP heapD setsN setsP setsD heapDN allocDN cellDN setsDN spl size_sets Value.oneCell'

/-- One change that the index holds before. -/
structure Pre where
  k : Nat
  create : Int
  version : Int
  lease : Int
def preC (p : Pre) (i : Nat) : Chg := ⟨(i : Int) + 1, 0, p.create, p.version, 0, 0, 0, p.lease⟩
def preRun (ps : Nat → Pre) : Nat → (Nat → List Chg)
  | 0 => fun _ => []
  | i + 1 => fun j => if j = (ps i).k then preRun ps i j ++ [preC (ps i) i] else preRun ps i j
def preRks (ps : Nat → Pre) : Nat → List Rk
  | 0 => []
  | i + 1 => preRks ps i ++ [⟨(i : Int) + 1, 0, (ps i).k⟩]
theorem preRks_length (ps : Nat → Pre) : ∀ i, (preRks ps i).length = i
  | 0 => rfl
  | i + 1 => by simp [preRks, preRks_length ps i]
theorem preRun_length (ps : Nat → Pre) (k : Nat) : ∀ i, (preRun ps i k).length ≤ i
  | 0 => Nat.le_refl _
  | i + 1 => by
    have := preRun_length ps k i
    simp only [preRun]
    split
    · simp; omega
    · omega

/-- How the first slice reads. -/
structure PreAt (w : World) (pa : Option Addr) (np : Nat) (ps : Nat → Pre) (ky : Nat → Int) : Prop where
  at' : ∀ i, i < np → ∃ b o, pa = some ⟨b, o, none⟩ ∧ w.rangeAt b (o + i * 4) [.int .u8 (ky i), .int .i64 (ps i).create, .int .i64 (ps i).version, .int .i64 (ps i).lease]
  key : ∀ i, 0 ≤ ky i ∧ ky i ≤ 255 ∧ ky i % 5 = ((ps i).k : Int)

theorem info3 : (Yba.prog.info? 3).map (fun i => (i.zero, i.size, i.bytes)) = some (some (.int .i64 0), 1, 8) := by kernel_rfl
theorem info49 : (Yba.prog.info? 49).map (fun i => (i.zero, i.size, i.bytes)) = some (some (.agg #[.int .i64 0, .int .i64 0]), 2, 16) := by kernel_rfl

structure Q1 (w0 : World) (X mb EB : Nat) (ps : Nat → Pre) (i : Nat) (w : World) (ρ : Nat → Nat) (M : Nat → Option Nat) (pl : List Plc) (vk vr : Value) : Prop where
  st : St w0 X mb EB w ρ M (preRun ps i) pl ((i + 1023) / 1024) (preRun ps i) (preRks ps i) (preRks ps i) vk vr
  len : pl.length = i
  pls : PlR M pl (preRks ps i)
  iff : ∀ k, k < 5 → (M k = none ↔ preRun ps i k = [])

theorem Q1.next {w0 : World} {X mb EB : Nat} {ps : Nat → Pre} {i : Nat} {wr : World} {ρr : Nat → Nat} {M M2 : Nat → Option Nat} {pl : List Plc} {vk vr vk' vr' : Value} {p : Pre} {hb : Nat} {w' : World} {ρ' : Nat → Nat} (h : Q1 w0 X mb EB ps i wr ρr M pl vk vr) (hp : p = ps i) (hM : M2 p.k = some hb) (hext : ∀ j b, M j = some b → M2 j = some b) (hoth : ∀ j, j ≠ p.k → M2 j = M j)
    (S : St w0 X mb EB w' ρ' M2 (preRun ps (i + 1)) (pl ++ [⟨(i : Int) + 1, 0, hb⟩]) ((i + 1 + 1023) / 1024) (preRun ps (i + 1)) (preRks ps i ++ [⟨(i : Int) + 1, 0, p.k⟩]) (preRks ps i ++ [⟨(i : Int) + 1, 0, p.k⟩]) vk' vr') :
    Q1 w0 X mb EB ps (i + 1) w' ρ' M2 (pl ++ [⟨(i : Int) + 1, 0, hb⟩]) vk' vr' := by
  have e : preRks ps i ++ [⟨(i : Int) + 1, 0, p.k⟩] = preRks ps (i + 1) := by simp only [preRks]; rw [← hp]
  have h1 : PlR M2 [⟨(i : Int) + 1, 0, hb⟩] [⟨(i : Int) + 1, 0, p.k⟩] := fun j q hq => by
    match j, hq with
    | 0, hq =>
      simp at hq
      subst hq
      exact ⟨_, rfl, rfl, rfl, hM⟩
  rw [e] at S
  refine ⟨S, by simp [h.len], ?_, fun k hk => ?_⟩
  · rw [← e]
    exact (h.pls.ext hext).app h1 (by rw [h.len, preRks_length])
  · simp only [preRun]
    rw [← hp]
    by_cases q : k = p.k
    · rw [q, hM]; simp
    · rw [if_neg q, hoth k q]
      exact h.iff k hk

set_option linter.unusedSimpArgs false in
set_option maxRecDepth 100000 in
set_option maxHeartbeats 4000000 in
theorem loop1 {v4 v5 v6 v7 v13 v14 v15 v16 v17 v18 v19 v20 v21 v22 v23 v24 v25 v26 v27 v28 v29 v30 v31 v32 v33 v34 v35 v36 v37 v38 v39 v40 v41 v42 v43 v44 v45 v46 v47 v48 v49 v53 v54 v55 v56 v57 v58 v59 v60 v61 v62 v63 v64 v65 v66 v67 v68 v69 v70 v71 v72 v73 v74 v75 v76 v77 v78 v79 v80 v81 v82 v83 v84 v85 v86 v87 v88 v89 v90 v91 v92 v93 v94 v95 v96 v97 v98 v99 v100 v101 v102 v103 v104 v105 v106 v107 v108 v109 v110 v111 v112 v113 v114 v115 v116 v117 v118 v119 v120 v121 v122 v123 v124 v125 v126 v127 v128 v129 v130 v131 v132 v133 v134 v135 v136 v137 v138 v139 v140 v141 v142 v143 v144 v145 v146 v147 v148 v149 v150 v151 v152 v153 v154 v155 v156 v157 v158 v159 v160 v161 v162 v163 v164 v165 v166 v167 v168 v169 v170 v171 v172 v173 v174 v175 v176 v177 v178 v179 v180 v181 v182 v183 v184 v185 v186 v187 v188 v189 v190 v191 v192 v193 v194 v195 v196 v197 v198 v199 v200 v201 v202 v203 v204 v205 v206 v207 v208 v209 v210 v211 v212 v213 v214 v215 v216 v217 v218 v219 v220 v221 v222 v223 v224 v225 v226 v227 v228 v229 v230 v231 v232 v233 v234 v235 v236 v237 v238 v239 v240 v241 v242 v243 v244 v245 v246 v247 v248 v249 v250 v251 v252 v253 v254 v255 v256 v257 v258 v259 v260 v261 v262 v263 v264 v265 v266 v267 v268 v269 v270 v271 v272 v273 v274 v275 v276 v277 v278 v279 v280 v281 v282 v283 v284 v285 v286 v287 v288 v289 v290 v291 v292 v293 v294 v295 v296 v297 v298 v299 v300 v301 v302 v303 v304 v305 v306 v307 v308 v309 v310 v311 v312 v313 v314 v315 v316 v317 v318 v319 v320 v321 v322 v323 v324 v325 v326 v327 v328 v329 v330 v331 v332 v333 v334 v335 v336 v337 v338 v339 v340 v341 v342 v343 v344 v345 v346 v347 v348 v349 v350 v351 v352 v353 v354 v355 v356 v357 v358 v359 v360 v361 v362 v363 v364 v365 v366 v367 v368 v369 v370 v371 v372 v373 v374 v375 v376 v377 v378 v379 v380 v381 v382 v383 v384 v385 v386 v387 v388 v389 v390 v391 v392 v393 v394 v395 v396 v397 v398 v399 v400 v401 v402 v403 v404 v405 v406 v407 : Value} (rev mult : Int) (pa ra : Option Addr) (np pc nr qc X mb EB : Nat) (ps : Nat → Pre) (ky : Nat → Int) (w0 w : World) (ρ : Nat → Nat) (K : Act → World → Prop) (Q' : Exit → Act → World → Prop)
    (hin : PreAt w0 pa np ps ky) (hnp : np ≤ 4096) (h0 : Q1 w0 X mb EB ps 0 w ρ (fun _ => none) [] (.slice none 0 0) (.slice none 0 0))
    (hK : ∀ ⦃u13 u14 u15 u16 u17 u18 u52 u53 u54 u55 u56 u57 u58 u59 u60 u61 u62 u63 u64 u65 u66 u67 u68 u69 u70 u71 u72 u73 u74 u75 u76 u77 u78 u79 u80 u81 u82 u83 u84 u85 u86 u87 u88 u89 u90 u91 u92 u93 u94 u95 u96 u97 u98 u99 u100 u101 u102 u103 u104 u105 u106 u107 u108 u109 u110 u111 u112 u113 u114 u115 u116 u117 u118 u119 vk vr : Value⦄ (w' : World) (ρ' : Nat → Nat) (M' : Nat → Option Nat) (pl' : List Plc), Q1 w0 X mb EB ps np w' ρ' M' pl' vk vr →
      K ⟨List.toArray (.int .i64 rev :: .slice pa np pc :: .slice ra nr qc :: .int .u8 mult :: v4 :: v5 :: v6 :: v7 :: .bool false :: .pointer (some ⟨X, 0, none⟩) :: .pointer (some ⟨EB, 0, none⟩) :: vk :: vr :: u13 :: u14 :: u15 :: u16 :: u17 :: u18 :: v19 :: v20 :: v21 :: v22 :: v23 :: v24 :: v25 :: v26 :: v27 :: v28 :: v29 :: v30 :: v31 :: v32 :: v33 :: v34 :: v35 :: v36 :: v37 :: v38 :: v39 :: v40 :: v41 :: v42 :: v43 :: v44 :: v45 :: v46 :: v47 :: v48 :: v49 :: .slice pa np pc :: .int .i64 (np : Int) :: u52 :: u53 :: u54 :: u55 :: u56 :: u57 :: u58 :: u59 :: u60 :: u61 :: u62 :: u63 :: u64 :: u65 :: u66 :: u67 :: u68 :: u69 :: u70 :: u71 :: u72 :: u73 :: u74 :: u75 :: u76 :: u77 :: u78 :: u79 :: u80 :: u81 :: u82 :: u83 :: u84 :: u85 :: u86 :: u87 :: u88 :: u89 :: u90 :: u91 :: u92 :: u93 :: u94 :: u95 :: u96 :: u97 :: u98 :: u99 :: u100 :: u101 :: u102 :: u103 :: u104 :: u105 :: u106 :: u107 :: u108 :: u109 :: u110 :: u111 :: u112 :: u113 :: u114 :: u115 :: u116 :: u117 :: u118 :: u119 :: v120 :: v121 :: v122 :: v123 :: v124 :: v125 :: v126 :: v127 :: v128 :: v129 :: v130 :: v131 :: v132 :: v133 :: v134 :: v135 :: v136 :: v137 :: v138 :: v139 :: v140 :: v141 :: v142 :: v143 :: v144 :: v145 :: v146 :: v147 :: v148 :: v149 :: v150 :: v151 :: v152 :: v153 :: v154 :: v155 :: v156 :: v157 :: v158 :: v159 :: v160 :: v161 :: v162 :: v163 :: v164 :: v165 :: v166 :: v167 :: v168 :: v169 :: v170 :: v171 :: v172 :: v173 :: v174 :: v175 :: v176 :: v177 :: v178 :: v179 :: v180 :: v181 :: v182 :: v183 :: v184 :: v185 :: v186 :: v187 :: v188 :: v189 :: v190 :: v191 :: v192 :: v193 :: v194 :: v195 :: v196 :: v197 :: v198 :: v199 :: v200 :: v201 :: v202 :: v203 :: v204 :: v205 :: v206 :: v207 :: v208 :: v209 :: v210 :: v211 :: v212 :: v213 :: v214 :: v215 :: v216 :: v217 :: v218 :: v219 :: v220 :: v221 :: v222 :: v223 :: v224 :: v225 :: v226 :: v227 :: v228 :: v229 :: v230 :: v231 :: v232 :: v233 :: v234 :: v235 :: v236 :: v237 :: v238 :: v239 :: v240 :: v241 :: v242 :: v243 :: v244 :: v245 :: v246 :: v247 :: v248 :: v249 :: v250 :: v251 :: v252 :: v253 :: v254 :: v255 :: v256 :: v257 :: v258 :: v259 :: v260 :: v261 :: v262 :: v263 :: v264 :: v265 :: v266 :: v267 :: v268 :: v269 :: v270 :: v271 :: v272 :: v273 :: v274 :: v275 :: v276 :: v277 :: v278 :: v279 :: v280 :: v281 :: v282 :: v283 :: v284 :: v285 :: v286 :: v287 :: v288 :: v289 :: v290 :: v291 :: v292 :: v293 :: v294 :: v295 :: v296 :: v297 :: v298 :: v299 :: v300 :: v301 :: v302 :: v303 :: v304 :: v305 :: v306 :: v307 :: v308 :: v309 :: v310 :: v311 :: v312 :: v313 :: v314 :: v315 :: v316 :: v317 :: v318 :: v319 :: v320 :: v321 :: v322 :: v323 :: v324 :: v325 :: v326 :: v327 :: v328 :: v329 :: v330 :: v331 :: v332 :: v333 :: v334 :: v335 :: v336 :: v337 :: v338 :: v339 :: v340 :: v341 :: v342 :: v343 :: v344 :: v345 :: v346 :: v347 :: v348 :: v349 :: v350 :: v351 :: v352 :: v353 :: v354 :: v355 :: v356 :: v357 :: v358 :: v359 :: v360 :: v361 :: v362 :: v363 :: v364 :: v365 :: v366 :: v367 :: v368 :: v369 :: v370 :: v371 :: v372 :: v373 :: v374 :: v375 :: v376 :: v377 :: v378 :: v379 :: v380 :: v381 :: v382 :: v383 :: v384 :: v385 :: v386 :: v387 :: v388 :: v389 :: v390 :: v391 :: v392 :: v393 :: v394 :: v395 :: v396 :: v397 :: v398 :: v399 :: v400 :: v401 :: v402 :: v403 :: v404 :: v405 :: v406 :: v407 :: []), []⟩ w') :
    Code.wp Yba.prog lp1 (Exit.inBlock 0 (Exit.then K Q')) ⟨List.toArray (.int .i64 rev :: .slice pa np pc :: .slice ra nr qc :: .int .u8 mult :: v4 :: v5 :: v6 :: v7 :: .bool false :: .pointer (some ⟨X, 0, none⟩) :: .pointer (some ⟨EB, 0, none⟩) :: .slice none 0 0 :: .slice none 0 0 :: v13 :: v14 :: v15 :: v16 :: v17 :: v18 :: v19 :: v20 :: v21 :: v22 :: v23 :: v24 :: v25 :: v26 :: v27 :: v28 :: v29 :: v30 :: v31 :: v32 :: v33 :: v34 :: v35 :: v36 :: v37 :: v38 :: v39 :: v40 :: v41 :: v42 :: v43 :: v44 :: v45 :: v46 :: v47 :: v48 :: v49 :: .slice pa np pc :: .int .i64 (np : Int) :: .int .i64 0 :: v53 :: v54 :: v55 :: v56 :: v57 :: v58 :: v59 :: v60 :: v61 :: v62 :: v63 :: v64 :: v65 :: v66 :: v67 :: v68 :: v69 :: v70 :: v71 :: v72 :: v73 :: v74 :: v75 :: v76 :: v77 :: v78 :: v79 :: v80 :: v81 :: v82 :: v83 :: v84 :: v85 :: v86 :: v87 :: v88 :: v89 :: v90 :: v91 :: v92 :: v93 :: v94 :: v95 :: v96 :: v97 :: v98 :: v99 :: v100 :: v101 :: v102 :: v103 :: v104 :: v105 :: v106 :: v107 :: v108 :: v109 :: v110 :: v111 :: v112 :: v113 :: v114 :: v115 :: v116 :: v117 :: v118 :: v119 :: v120 :: v121 :: v122 :: v123 :: v124 :: v125 :: v126 :: v127 :: v128 :: v129 :: v130 :: v131 :: v132 :: v133 :: v134 :: v135 :: v136 :: v137 :: v138 :: v139 :: v140 :: v141 :: v142 :: v143 :: v144 :: v145 :: v146 :: v147 :: v148 :: v149 :: v150 :: v151 :: v152 :: v153 :: v154 :: v155 :: v156 :: v157 :: v158 :: v159 :: v160 :: v161 :: v162 :: v163 :: v164 :: v165 :: v166 :: v167 :: v168 :: v169 :: v170 :: v171 :: v172 :: v173 :: v174 :: v175 :: v176 :: v177 :: v178 :: v179 :: v180 :: v181 :: v182 :: v183 :: v184 :: v185 :: v186 :: v187 :: v188 :: v189 :: v190 :: v191 :: v192 :: v193 :: v194 :: v195 :: v196 :: v197 :: v198 :: v199 :: v200 :: v201 :: v202 :: v203 :: v204 :: v205 :: v206 :: v207 :: v208 :: v209 :: v210 :: v211 :: v212 :: v213 :: v214 :: v215 :: v216 :: v217 :: v218 :: v219 :: v220 :: v221 :: v222 :: v223 :: v224 :: v225 :: v226 :: v227 :: v228 :: v229 :: v230 :: v231 :: v232 :: v233 :: v234 :: v235 :: v236 :: v237 :: v238 :: v239 :: v240 :: v241 :: v242 :: v243 :: v244 :: v245 :: v246 :: v247 :: v248 :: v249 :: v250 :: v251 :: v252 :: v253 :: v254 :: v255 :: v256 :: v257 :: v258 :: v259 :: v260 :: v261 :: v262 :: v263 :: v264 :: v265 :: v266 :: v267 :: v268 :: v269 :: v270 :: v271 :: v272 :: v273 :: v274 :: v275 :: v276 :: v277 :: v278 :: v279 :: v280 :: v281 :: v282 :: v283 :: v284 :: v285 :: v286 :: v287 :: v288 :: v289 :: v290 :: v291 :: v292 :: v293 :: v294 :: v295 :: v296 :: v297 :: v298 :: v299 :: v300 :: v301 :: v302 :: v303 :: v304 :: v305 :: v306 :: v307 :: v308 :: v309 :: v310 :: v311 :: v312 :: v313 :: v314 :: v315 :: v316 :: v317 :: v318 :: v319 :: v320 :: v321 :: v322 :: v323 :: v324 :: v325 :: v326 :: v327 :: v328 :: v329 :: v330 :: v331 :: v332 :: v333 :: v334 :: v335 :: v336 :: v337 :: v338 :: v339 :: v340 :: v341 :: v342 :: v343 :: v344 :: v345 :: v346 :: v347 :: v348 :: v349 :: v350 :: v351 :: v352 :: v353 :: v354 :: v355 :: v356 :: v357 :: v358 :: v359 :: v360 :: v361 :: v362 :: v363 :: v364 :: v365 :: v366 :: v367 :: v368 :: v369 :: v370 :: v371 :: v372 :: v373 :: v374 :: v375 :: v376 :: v377 :: v378 :: v379 :: v380 :: v381 :: v382 :: v383 :: v384 :: v385 :: v386 :: v387 :: v388 :: v389 :: v390 :: v391 :: v392 :: v393 :: v394 :: v395 :: v396 :: v397 :: v398 :: v399 :: v400 :: v401 :: v402 :: v403 :: v404 :: v405 :: v406 :: v407 :: []), []⟩ w := by
  obtain ⟨i3, hi3, hb0, hb1, hb2⟩ := info_parts info3
  obtain ⟨i49, hi49, hc0, hc1, hc2⟩ := info_parts info49
  obtain ⟨i56, hi56, hd0, hd1, hd2⟩ := info_parts info56z
  replace hK := hid hK
  replace hin := hid hin
  replace h0 := hid h0
  replace hi3 := hid hi3
  replace hb0 := hid hb0
  replace hi49 := hid hi49
  replace hc0 := hid hc0
  replace hi56 := hid hi56
  replace hd0 := hid hd0
  refine (show Code.wp Yba.prog (Code.loop _) _ _ _ from ?_)
  go_loopw [11, 12, 52] (fun v11 v12 v52 wr => ∃ (i : Nat) (ρr : Nat → Nat) (M : Nat → Option Nat) (pl : List Plc), i ≤ np ∧ v52 = .int .i64 i ∧ Hid (Q1 w0 X mb EB ps i wr ρr M pl v11 v12)) (fun _ _ v52 _ => np - (intOf v52).toNat)
  case atStart => exact ⟨0, _, _, _, Nat.zero_le _, rfl, h0⟩
  case round =>
    obtain ⟨i, ρr, M, pl, hi, rfl, A⟩ := hrel
    clear h0
    have A1 : Q1 w0 X mb EB ps i wr ρr M pl u11 u12 := A
    by_cases hlt : i < np
    · have k1 : (i : Int) < (np : Int) := by omega
      have k3 : (0 : Int) ≤ (i : Int) := by omega
      obtain ⟨pb, po, hpa, hrg⟩ := PreAt.at' hin i hlt
      obtain ⟨hy0, hy1, hy2⟩ := PreAt.key hin i
      subst hpa
      obtain ⟨key, hkey⟩ : ∃ key, key = ky i := ⟨_, rfl⟩
      obtain ⟨p, hp⟩ : ∃ p, p = ps i := ⟨_, rfl⟩
      rw [← hkey, ← hp] at hrg
      rw [← hkey] at hy0 hy1
      rw [← hkey, ← hp] at hy2
      have hk5 : p.k < 5 := by omega
      have hkI : (p.k : Int) < 5 := by omega
      have hkJ : (0 : Int) ≤ (p.k : Int) := by omega
      have rg : ∀ j v, ([.int .u8 key, .int .i64 p.create, .int .i64 p.version, .int .i64 p.lease] : List Value)[j]? = some v → wr.cell? ⟨pb, po + i * 4 + j, none⟩ = some v := fun j v hv => A1.st.fr.cell (hrg j v hv) (by simp)
      have e0 : wr.cell? ⟨pb, po + i * 4, none⟩ = some (.int .u8 key) := rg 0 _ rfl
      have e1 : wr.cell? ⟨pb, po + i * 4 + 1, none⟩ = some (.int .i64 p.create) := rg 1 _ rfl
      have e2 : wr.cell? ⟨pb, po + i * 4 + 2, none⟩ = some (.int .i64 p.version) := rg 2 _ rfl
      have e3 : wr.cell? ⟨pb, po + i * 4 + 3, none⟩ = some (.int .i64 p.lease) := rg 3 _ rfl
      obtain ⟨w1, hw1⟩ : ∃ w1, w1 = wr.alloc (.cells #[.int .u8 key, .int .i64 p.create, .int .i64 p.version, .int .i64 p.lease] 43) := ⟨_, rfl⟩
      have F1 : Fr (fun _ => False) ρr ρr wr w1 := by rw [hw1]; exact (Fr.refl _ ρr wr).alloc _
      have S1 := A1.st.keep F1
      have T14 : objAt w1 wr.heap.size = some (.cells #[.int .u8 key, .int .i64 p.create, .int .i64 p.version, .int .i64 p.lease] 43 (0, 0)) := by rw [hw1]; exact heapN _ _ _ rfl
      have r14 : ρr wr.heap.size = 0 := A1.st.ix.tidy _ (Nat.le_refl _)
      have cX : w1.cell? ⟨X, 0, none⟩ = some (.map (some mb)) := by
        obtain ⟨ov, tv, bl, n, ho, _⟩ := S1.ix.x
        exact obj_cell ho 0
      have hlk := S1.ix.map.look hk5
      obtain ⟨ck, hck⟩ : ∃ ck, ck = preC p i := ⟨_, rfl⟩
      have ka := hid (key_any p.k hk5 w1)
      replace rg := hid rg
      replace hrg := hid hrg
      replace A1 := hid A1
      replace hp := hid hp
      replace hkey := hid hkey
      replace hw1 := hid hw1
      replace F1 := hid F1
      replace S1 := hid S1
      replace T14 := hid T14
      replace r14 := hid r14
      replace hck := hid hck
      cases hMk : M p.k with
      | some hb =>
        rw [hMk] at hlk
        simp only [ptrOf] at hlk
        have d1 : w1.cell? ⟨wr.heap.size, 1, none⟩ = some (.int .i64 p.create) := obj_cell T14 1
        have d2 : w1.cell? ⟨wr.heap.size, 2, none⟩ = some (.int .i64 p.version) := obj_cell T14 2
        have d3 : w1.cell? ⟨wr.heap.size, 3, none⟩ = some (.int .i64 p.lease) := obj_cell T14 3
        obtain ⟨M2, hM2⟩ : ∃ M2, M2 = M := ⟨_, rfl⟩
        have hMk2 : M2 p.k = some hb := by rw [hM2]; exact hMk
        have hext : ∀ j b, M j = some b → M2 j = some b := fun j b h => by rw [hM2]; exact h
        have hoth : ∀ j, j ≠ p.k → M2 j = M j := fun j h => by rw [hM2]
        have S3 : St w0 X mb EB w1 ρr M2 (preRun ps i) pl ((i + 1023) / 1024) (preRun ps i) (preRks ps i) (preRks ps i) u11 u12 := by rw [hM2]; exact S1
        replace hMk := hid hMk
        replace hM2 := hid hM2
        replace hMk2 := hid hMk2
        replace hext := hid hext
        replace hoth := hid hoth
        replace S3 := hid S3
        go_wp2_with (first | (go_at_call 5; rw [← hw1]; refine Calls.mono ka ?_; rintro e w' ⟨rfl, hw'⟩; rw [hw']))
        obtain ⟨w3, hw3⟩ : ∃ w3, w3 = w1 := ⟨_, rfl⟩
        obtain ⟨ρ3, hρ3⟩ : ∃ ρ3, ρ3 = ρr := ⟨_, rfl⟩
        rw [← hw3, ← hρ3] at S3
        rw [← hw3]
        have S3' : St w0 X mb EB w3 ρ3 M2 (preRun ps i) pl ((i + 1023) / 1024) (preRun ps i) (preRks ps i) (preRks ps i) u11 u12 := S3
        obtain ⟨w4, hw4⟩ : ∃ w4, w4 = w3.alloc (.cells #[.int .i64 ((i : Int) + 1), .int .i64 0, .int .i64 p.create, .int .i64 p.version, .int .i64 0, .int .u32 0, .int .u32 0, .int .u8 0, .int .u8 0, .int .u8 0, .int .u8 0, .int .u8 0, .int .u8 0, .int .u8 0, .int .u8 0, .int .u8 0, .int .u8 0, .int .u8 0, .int .u8 0, .int .u8 0, .int .u8 0, .int .u8 0, .int .u8 0, .int .i64 p.lease] 56) := ⟨_, rfl⟩
        rw [← hw4]
        have F4 : Fr (fun _ => False) ρ3 ρ3 w3 w4 := by rw [hw4]; exact (Fr.refl _ ρ3 w3).alloc _
        have S4 := S3'.keep F4
        have T18 : objAt w4 w3.heap.size = some (.cells #[.int .i64 ((i : Int) + 1), .int .i64 0, .int .i64 p.create, .int .i64 p.version, .int .i64 0, .int .u32 0, .int .u32 0, .int .u8 0, .int .u8 0, .int .u8 0, .int .u8 0, .int .u8 0, .int .u8 0, .int .u8 0, .int .u8 0, .int .u8 0, .int .u8 0, .int .u8 0, .int .u8 0, .int .u8 0, .int .u8 0, .int .u8 0, .int .u8 0, .int .i64 p.lease] 56 (0, 0)) := by rw [hw4]; exact heapN _ _ _ rfl
        have r18 : ρ3 w3.heap.size = 0 := S3'.ix.tidy _ (Nat.le_refl _)
        have t18 : w3.heap.size < w4.heap.size := obj_lt T18
        obtain ⟨hhr, v, hho, hhw, hhg⟩ := S4.ix.his p.k hb hk5 hMk2
        have hlen : (preRun ps i p.k).length ≤ 4096 := by have := preRun_length ps p.k i; omega
        have hS4 : w4.drew.cell? ⟨hb, 1, none⟩ = some v ∧ objAt w4.drew w3.heap.size = some (.cells #[.int .i64 ((i : Int) + 1), .int .i64 0, .int .i64 p.create, .int .i64 p.version, .int .i64 0, .int .u32 0, .int .u32 0, .int .u8 0, .int .u8 0, .int .u8 0, .int .u8 0, .int .u8 0, .int .u8 0, .int .u8 0, .int .u8 0, .int .u8 0, .int .u8 0, .int .u8 0, .int .u8 0, .int .u8 0, .int .u8 0, .int .u8 0, .int .u8 0, .int .i64 p.lease] 56 (0, 0)) := ⟨obj_cell hho 1, T18⟩
        have SF : ∀ w', Fr (fun r => r = 120 + p.k) ρ3 ρ3 w4 w' → w'.cell? ⟨hb, 1, none⟩ = some v ∧ objAt w' w3.heap.size = some (.cells #[.int .i64 ((i : Int) + 1), .int .i64 0, .int .i64 p.create, .int .i64 p.version, .int .i64 0, .int .u32 0, .int .u32 0, .int .u8 0, .int .u8 0, .int .u8 0, .int .u8 0, .int .u8 0, .int .u8 0, .int .u8 0, .int .u8 0, .int .u8 0, .int .u8 0, .int .u8 0, .int .u8 0, .int .u8 0, .int .u8 0, .int .u8 0, .int .u8 0, .int .i64 p.lease] 56 (0, 0)) := fun w' h => ⟨h.cell (obj_cell hho 1) (by show ¬ (ρ3 hb = 120 + p.k); rw [hhr]; omega), h.obj T18 (by rw [r18]; omega)⟩
        have hq1 : (preRun ps i p.k).length + 1 ≤ maxLen := by unfold maxLen; omega
        have hq2 : ((preRun ps i p.k).length + 1) * 72 ≤ 140737488355328 := by omega
        have hstep : (fun j => if j = p.k then preRun ps i p.k ++ [ck] else preRun ps i j) = preRun ps (i + 1) := by
          funext j
          simp only [preRun]
          rw [← show p = ps i from hp, show ck = _ from hck]
          split
          · rename_i e
            rw [e]
          · rfl
        have hcc : ck.cells = (#[.int .i64 ((i : Int) + 1), .int .i64 0, .int .i64 p.create, .int .i64 p.version, .int .i64 0, .int .u32 0, .int .u32 0, .int .u8 0, .int .u8 0, .int .u8 0, .int .u8 0, .int .u8 0, .int .u8 0, .int .u8 0, .int .u8 0, .int .u8 0, .int .u8 0, .int .u8 0, .int .u8 0, .int .u8 0, .int .u8 0, .int .u8 0, .int .u8 0, .int .i64 p.lease] : Array Value).toList := by rw [show ck = _ from hck]; rfl
        replace S3' := hid S3'
        replace F4 := hid F4
        replace S4 := hid S4
        replace T18 := hid T18
        replace r18 := hid r18
        replace hhr := hid hhr
        replace hho := hid hho
        replace hhw := hid hhw
        replace hhg := hid hhg
        replace SF := hid SF
        replace hw4 := hid hw4
        replace hw3 := hid hw3
        replace hρ3 := hid hρ3
        replace hstep := hid hstep
        replace hcc := hid hcc
        replace hlen := hid hlen
        refine wp_region_noPanic (wp_region_N (fun w' => w'.cell? ⟨hb, 1, none⟩ = some v ∧ objAt w' w3.heap.size = some (.cells #[.int .i64 ((i : Int) + 1), .int .i64 0, .int .i64 p.create, .int .i64 p.version, .int .i64 0, .int .u32 0, .int .u32 0, .int .u8 0, .int .u8 0, .int .u8 0, .int .u8 0, .int .u8 0, .int .u8 0, .int .u8 0, .int .u8 0, .int .u8 0, .int .u8 0, .int .u8 0, .int .u8 0, .int .u8 0, .int .u8 0, .int .u8 0, .int .u8 0, .int .i64 p.lease] 56 (0, 0))) 10 (by kernel_rfl) ?_)
        replace hS4 := hid hS4
        refine wpAnyN_take (i := 0) (v := .pointer (some ⟨hb, 0, none⟩)) (by kernel_rfl) rfl (by kernel_rfl) (by kernel_rfl) (by kernel_rfl) (fun _ _ _ h => h) (by rfl) (fun w' hS => ?_) hS4 ?_
        · obtain ⟨s1, s2⟩ := hS
          go_simp
        simp only [Act.put, List.setIfInBounds_toArray, List.set_cons_zero, List.set_cons_succ]
        refine wpAnyN_take (i := 1) (v := .pointer (some ⟨hb, 0, none⟩)) (by kernel_rfl) rfl (by kernel_rfl) (by kernel_rfl) (by kernel_rfl) (fun _ _ _ h => h) (by rfl) (fun w' hS => ?_) hS4 ?_
        · obtain ⟨s1, s2⟩ := hS
          go_simp
        simp only [Act.put, List.setIfInBounds_toArray, List.set_cons_zero, List.set_cons_succ]
        refine wpAnyN_take (i := 2) (v := .pointer (some ⟨hb, 0, none⟩)) (by kernel_rfl) rfl (by kernel_rfl) (by kernel_rfl) (by kernel_rfl) (fun _ _ _ h => h) (by rfl) (fun w' hS => ?_) hS4 ?_
        · obtain ⟨s1, s2⟩ := hS
          go_simp
        simp only [Act.put, List.setIfInBounds_toArray, List.set_cons_zero, List.set_cons_succ]
        refine wpAnyN_take (i := 3) (v := .pointer (some ⟨hb, 1, none⟩)) (by kernel_rfl) rfl (by kernel_rfl) (by kernel_rfl) (by kernel_rfl) (fun _ _ _ h => h) (by rfl) (fun w' hS => ?_) hS4 ?_
        · obtain ⟨s1, s2⟩ := hS
          go_simp
        simp only [Act.put, List.setIfInBounds_toArray, List.set_cons_zero, List.set_cons_succ]
        refine wpAnyN_take (i := 4) (v := v) (by kernel_rfl) rfl (by kernel_rfl) (by kernel_rfl) (by kernel_rfl) (fun _ _ _ h => h) (by rfl) (fun w' hS => ?_) hS4 ?_
        · obtain ⟨s1, s2⟩ := hS
          go_simp
        simp only [Act.put, List.setIfInBounds_toArray, List.set_cons_zero, List.set_cons_succ]
        refine wpAnyN_take (i := 5) (v := .agg #[.int .i64 ((i : Int) + 1), .int .i64 0, .int .i64 p.create, .int .i64 p.version, .int .i64 0, .int .u32 0, .int .u32 0, .int .u8 0, .int .u8 0, .int .u8 0, .int .u8 0, .int .u8 0, .int .u8 0, .int .u8 0, .int .u8 0, .int .u8 0, .int .u8 0, .int .u8 0, .int .u8 0, .int .u8 0, .int .u8 0, .int .u8 0, .int .u8 0, .int .i64 p.lease]) (by kernel_rfl) rfl (by kernel_rfl) (by kernel_rfl) (by kernel_rfl) (fun _ _ _ h => h) (by rfl) (fun w' hS => ?_) hS4 ?_
        · obtain ⟨s1, s2⟩ := hS
          go_simp
        simp only [Act.put, List.setIfInBounds_toArray, List.set_cons_zero, List.set_cons_succ]
        refine wpAnyN_one (i := 6) (by kernel_rfl) rfl (by rfl) (fun K hK => ?_)
        go_simp
        obtain ⟨w4a, hw4a⟩ : ∃ w4a, w4a = w4.alloc (.cells #[.int .i64 ((i : Int) + 1), .int .i64 0, .int .i64 p.create, .int .i64 p.version, .int .i64 0, .int .u32 0, .int .u32 0, .int .u8 0, .int .u8 0, .int .u8 0, .int .u8 0, .int .u8 0, .int .u8 0, .int .u8 0, .int .u8 0, .int .u8 0, .int .u8 0, .int .u8 0, .int .u8 0, .int .u8 0, .int .u8 0, .int .u8 0, .int .u8 0, .int .i64 p.lease] 56) := ⟨_, rfl⟩
        obtain ⟨w4b, hw4b⟩ : ∃ w4b, w4b = w4a.drew := ⟨_, rfl⟩
        have F4a : Fr (fun r => r = 120 + p.k) ρ3 ρ3 w4 w4b := by rw [hw4b, hw4a]; exact ((Fr.refl _ ρ3 w4).alloc _).drew
        rw [← hw4a, ← hw4b]
        refine hK.out _ _ (fun _ => SF w4b F4a) ?_
        clear hK
        refine wpAnyN_one (i := 7) (by kernel_rfl) rfl (by rfl) (fun K hK => ?_)
        have hown4 : w4b.ownsRow 0 56 24 v (preRun ps i p.k).length (chgs (preRun ps i p.k)) := by
          rw [hw4b, hw4a]
          exact World.ownsRow.alloc hhw _
        have hsz4 : w4b.heap.size = w4.heap.size + 1 := by rw [hw4b, hw4a]; simp
        refine wp_append_lies w4b (.tmp 90) (.tmp 92) 38 (by rfl) 0 56 i56 (.agg (chgA 0 0 0 0 0 0 0 0)) 24 72 Yba.underlying38 hi56 hd0 hd1 hd2 rfl (by decide) v (preRun ps i p.k).length (chgs (preRun ps i p.k)) (by rfl) hown4 ⟨w4.heap.size, 0, none⟩ 1 1 ck.cells (by rfl) rfl ?_ ck.one (by decide) hq1 hq2 (Nat.zero_le _) (w4.heap.size + 1) hsz4 ?_
        · rw [show ck.cells = _ from hcc]
          exact World.news_of_block (by rw [hw4b, hw4a]; exact heapN _ _ _ rfl)
        intro g5 cap5 w5 hown5 hgr5 hat5 hlt5
        have F5 : Fr (fun r => r = 120 + p.k) ρ3 ρ3 w4 w5 := F4a.grown hgr5 (fun g e => hhg g e)
        refine hK.out _ _ (fun _ => SF w5 F5) ?_
        clear hK
        simp only [Act.put, List.setIfInBounds_toArray, List.set_cons_zero, List.set_cons_succ]
        have oH5 : objAt w5 hb = some (.cells #[.string (keyS p.k), v, .int .i64 0] 47 (0, 0)) := F5.obj hho (by rw [hhr]; omega)
        have y1 : w5.cell? ⟨hb, 1, none⟩ = some v := obj_cell oH5 1
        have y2 : w5.frozen? ⟨hb, 1, none⟩ = false := obj_frozen oH5 1
        obtain ⟨F6, H6⟩ := his_push (w := w4) (wC := w4b) (c := ck) hhr hho hhg F4a hgr5 hown5 (_root_.Or.imp id (fun e => by rw [hsz4]; exact Nat.le_of_eq e.symm) hat5) hlt5
        obtain ⟨w6, hw6⟩ : ∃ w6, w6 = w5.setCell ⟨hb, 1, none⟩ (.slice (some ⟨g5, 0, none⟩) ((preRun ps i p.k).length + 1) cap5) := ⟨_, rfl⟩
        obtain ⟨ρ6, hρ6⟩ : ∃ ρ6, ρ6 = upd ρ3 g5 (120 + p.k) := ⟨_, rfl⟩
        rw [← hw6, ← hρ6] at F6 H6
        have I6 := Ix.change (St.ix S4) hk5 hMk2 F6 H6
        rw [show (fun j => if j = p.k then preRun ps i p.k ++ [ck] else preRun ps i j) = preRun ps (i + 1) from hstep] at I6
        have S6 := St.ix' S4 (F6.mono (fun r e => by omega)) I6
        have T6 : objAt w6 w3.heap.size = some (.cells #[.int .i64 ((i : Int) + 1), .int .i64 0, .int .i64 p.create, .int .i64 p.version, .int .i64 0, .int .u32 0, .int .u32 0, .int .u8 0, .int .u8 0, .int .u8 0, .int .u8 0, .int .u8 0, .int .u8 0, .int .u8 0, .int .u8 0, .int .u8 0, .int .u8 0, .int .u8 0, .int .u8 0, .int .u8 0, .int .u8 0, .int .u8 0, .int .u8 0, .int .i64 p.lease] 56 (0, 0)) := F6.obj T18 (by rw [show ρ3 w3.heap.size = 0 from r18]; omega)
        have r6 : ρ6 w3.heap.size = 0 := (F6.role _ t18).trans r18
        obtain ⟨vE, cE, fE, oE, gEr⟩ := S6.ex.cell hk5
        have hS6 : ∀ q, (w6.drewN q).cell? ⟨EB, p.k, none⟩ = some vE ∧ objAt (w6.drewN q) w3.heap.size = some (.cells #[.int .i64 ((i : Int) + 1), .int .i64 0, .int .i64 p.create, .int .i64 p.version, .int .i64 0, .int .u32 0, .int .u32 0, .int .u8 0, .int .u8 0, .int .u8 0, .int .u8 0, .int .u8 0, .int .u8 0, .int .u8 0, .int .u8 0, .int .u8 0, .int .u8 0, .int .u8 0, .int .u8 0, .int .u8 0, .int .u8 0, .int .u8 0, .int .u8 0, .int .i64 p.lease] 56 (0, 0)) := fun q => ⟨cE, T6⟩
        have rE6 : ρ6 EB = 1 := S6.ex.rE
        have SG : ∀ w', Fr (fun r => r = 10 + p.k) ρ6 ρ6 w6 w' → w'.cell? ⟨EB, p.k, none⟩ = some vE ∧ objAt w' w3.heap.size = some (.cells #[.int .i64 ((i : Int) + 1), .int .i64 0, .int .i64 p.create, .int .i64 p.version, .int .i64 0, .int .u32 0, .int .u32 0, .int .u8 0, .int .u8 0, .int .u8 0, .int .u8 0, .int .u8 0, .int .u8 0, .int .u8 0, .int .u8 0, .int .u8 0, .int .u8 0, .int .u8 0, .int .u8 0, .int .u8 0, .int .u8 0, .int .u8 0, .int .u8 0, .int .i64 p.lease] 56 (0, 0)) := fun w' h => ⟨h.cell cE (by show ¬ (ρ6 EB = 10 + p.k); rw [rE6]; omega), h.obj T6 (by rw [r6]; omega)⟩
        replace hown5 := hid hown5
        replace hgr5 := hid hgr5
        replace hat5 := hid hat5
        replace F5 := hid F5
        replace F4a := hid F4a
        replace oH5 := hid oH5
        replace hw4a := hid hw4a
        replace hw4b := hid hw4b
        replace hown4 := hid hown4
        replace hsz4 := hid hsz4
        replace F6 := hid F6
        replace H6 := hid H6
        replace I6 := hid I6
        replace S6 := hid S6
        replace T6 := hid T6
        replace r6 := hid r6
        replace oE := hid oE
        replace gEr := hid gEr
        replace rE6 := hid rE6
        replace SG := hid SG
        replace hw6 := hid hw6
        replace hρ6 := hid hρ6
        have hS6' := hid hS6
        clear hS6
        have cE' := hid cE
        have fE' := hid fE
        clear cE fE
        refine wpAnyN_one (i := 8) (by kernel_rfl) rfl (by rfl) (fun K hK => ?_)
        go_simp
        refine hK.out _ _ (fun _ => SF w5 F5) ?_
        clear hK
        refine wpAnyN_one (i := 9) (by kernel_rfl) rfl (by rfl) (fun K hK => ?_)
        go_simp
        refine hK.out _ _ (fun _ => SF w5 F5) ?_
        clear hK
        refine wpAnyN_one (i := 10) (by kernel_rfl) rfl (by rfl) (fun K hK => ?_)
        go_simp
        refine hK.out _ _ (fun h => absurd rfl h) ?_
        clear hK
        refine wpAnyN_done (by kernel_rfl) ?_ _
        refine NoPanic.normal ?_
        rw [← hw6]
        clear y1 y2
        go_wp2
        refine wp_region_noPanic (wp_region_N (fun w' => w'.cell? ⟨EB, p.k, none⟩ = some vE ∧ objAt w' w3.heap.size = some (.cells #[.int .i64 ((i : Int) + 1), .int .i64 0, .int .i64 p.create, .int .i64 p.version, .int .i64 0, .int .u32 0, .int .u32 0, .int .u8 0, .int .u8 0, .int .u8 0, .int .u8 0, .int .u8 0, .int .u8 0, .int .u8 0, .int .u8 0, .int .u8 0, .int .u8 0, .int .u8 0, .int .u8 0, .int .u8 0, .int .u8 0, .int .u8 0, .int .u8 0, .int .i64 p.lease] 56 (0, 0))) 8 (by kernel_rfl) ?_)
        have hS6 := hid (hS6' 1)
        refine wpAnyN_take (i := 0) (v := .int .i64 (p.k : Int)) (by kernel_rfl) rfl (by kernel_rfl) (by kernel_rfl) (by kernel_rfl) (fun _ _ _ h => h) (by rfl) (fun w' hS => ?_) hS6 ?_
        · obtain ⟨s1, s2⟩ := hS
          go_simp
        simp only [Act.put, List.setIfInBounds_toArray, List.set_cons_zero, List.set_cons_succ]
        refine wpAnyN_take (i := 1) (v := .int .i64 (p.k : Int)) (by kernel_rfl) rfl (by kernel_rfl) (by kernel_rfl) (by kernel_rfl) (fun _ _ _ h => h) (by rfl) (fun w' hS => ?_) hS6 ?_
        · obtain ⟨s1, s2⟩ := hS
          go_simp
        simp only [Act.put, List.setIfInBounds_toArray, List.set_cons_zero, List.set_cons_succ]
        refine wpAnyN_take (i := 2) (v := .pointer (some ⟨EB, p.k, none⟩)) (by kernel_rfl) rfl (by kernel_rfl) (by kernel_rfl) (by kernel_rfl) (fun _ _ _ h => h) (by rfl) (fun w' hS => ?_) hS6 ?_
        · obtain ⟨s1, s2⟩ := hS
          go_simp
        simp only [Act.put, List.setIfInBounds_toArray, List.set_cons_zero, List.set_cons_succ]
        refine wpAnyN_take (i := 3) (v := vE) (by kernel_rfl) rfl (by kernel_rfl) (by kernel_rfl) (by kernel_rfl) (fun _ _ _ h => h) (by rfl) (fun w' hS => ?_) hS6 ?_
        · obtain ⟨s1, s2⟩ := hS
          go_simp
        simp only [Act.put, List.setIfInBounds_toArray, List.set_cons_zero, List.set_cons_succ]
        refine wpAnyN_take (i := 4) (v := .agg #[.int .i64 ((i : Int) + 1), .int .i64 0, .int .i64 p.create, .int .i64 p.version, .int .i64 0, .int .u32 0, .int .u32 0, .int .u8 0, .int .u8 0, .int .u8 0, .int .u8 0, .int .u8 0, .int .u8 0, .int .u8 0, .int .u8 0, .int .u8 0, .int .u8 0, .int .u8 0, .int .u8 0, .int .u8 0, .int .u8 0, .int .u8 0, .int .u8 0, .int .i64 p.lease]) (by kernel_rfl) rfl (by kernel_rfl) (by kernel_rfl) (by kernel_rfl) (fun _ _ _ h => h) (by rfl) (fun w' hS => ?_) hS6 ?_
        · obtain ⟨s1, s2⟩ := hS
          go_simp
        simp only [Act.put, List.setIfInBounds_toArray, List.set_cons_zero, List.set_cons_succ]
        refine wpAnyN_one (i := 5) (by kernel_rfl) rfl (by rfl) (fun K hK => ?_)
        go_simp
        obtain ⟨w6a, hw6a⟩ : ∃ w6a, w6a = w6.alloc (.cells #[.int .i64 ((i : Int) + 1), .int .i64 0, .int .i64 p.create, .int .i64 p.version, .int .i64 0, .int .u32 0, .int .u32 0, .int .u8 0, .int .u8 0, .int .u8 0, .int .u8 0, .int .u8 0, .int .u8 0, .int .u8 0, .int .u8 0, .int .u8 0, .int .u8 0, .int .u8 0, .int .u8 0, .int .u8 0, .int .u8 0, .int .u8 0, .int .u8 0, .int .i64 p.lease] 56) := ⟨_, rfl⟩
        obtain ⟨w6b, hw6b⟩ : ∃ w6b, w6b = w6a.drew := ⟨_, rfl⟩
        have F6a : Fr (fun _ => False) ρ6 ρ6 w6 w6b := by rw [hw6b, hw6a]; exact ((Fr.refl _ ρ6 w6).alloc _).drew
        rw [← hw6a, ← hw6b]
        refine hK.out _ _ (fun _ => SG w6b (F6a.mono (fun _ e => e.elim))) ?_
        clear hK
        refine wpAnyN_one (i := 6) (by kernel_rfl) rfl (by rfl) (fun K hK => ?_)
        have hown6 : w6b.ownsRow 0 56 24 vE (preRun ps i p.k).length (chgs (preRun ps i p.k)) := by
          rw [hw6b, hw6a]
          exact World.ownsRow.alloc oE _
        have hsz6 : w6b.heap.size = w6.heap.size + 1 := by rw [hw6b, hw6a]; simp
        refine wp_append_lies w6b (.tmp 99) (.tmp 101) 38 (by rfl) 0 56 i56 (.agg (chgA 0 0 0 0 0 0 0 0)) 24 72 Yba.underlying38 hi56 hd0 hd1 hd2 rfl (by decide) vE (preRun ps i p.k).length (chgs (preRun ps i p.k)) (by rfl) hown6 ⟨w6.heap.size, 0, none⟩ 1 1 ck.cells (by rfl) rfl ?_ ck.one (by decide) hq1 hq2 (Nat.zero_le _) (w6.heap.size + 1) hsz6 ?_
        · rw [show ck.cells = _ from hcc]
          exact World.news_of_block (by rw [hw6b, hw6a]; exact heapN _ _ _ rfl)
        intro g7 cap7 w7 hown7 hgr7 hat7 hlt7
        have F7 : Fr (fun r => r = 10 + p.k) ρ6 ρ6 w6 w7 := (F6a.mono (fun _ e => e.elim)).grown hgr7 (fun g e => gEr g e)
        refine hK.out _ _ (fun _ => SG w7 F7) ?_
        clear hK
        simp only [Act.put, List.setIfInBounds_toArray, List.set_cons_zero, List.set_cons_succ]
        have S6b := St.keep S6 F6a
        have cEb : w6b.cell? ⟨EB, p.k, none⟩ = some vE := F6a.cell cE' (fun e => e)
        have y1 : w7.cell? ⟨EB, p.k, none⟩ = some vE := (SG w7 F7).1
        have y2 : w7.frozen? ⟨EB, p.k, none⟩ = false := by
          obtain ⟨V, ho, _⟩ := (St.ex S6).ex
          exact obj_frozen (F7.obj ho (by rw [show ρ6 EB = 1 from rE6]; omega)) _
        obtain ⟨F8, E8⟩ := Ex.push (c := ck) S6b.ex hk5 cEb hgr7 hown7 (_root_.Or.imp id (fun e => by rw [hsz6]; exact Nat.le_of_eq e.symm) hat7) hlt7
        obtain ⟨w8, hw8⟩ : ∃ w8, w8 = w7.setCell ⟨EB, p.k, none⟩ (.slice (some ⟨g7, 0, none⟩) ((preRun ps i p.k).length + 1) cap7) := ⟨_, rfl⟩
        obtain ⟨ρ8, hρ8⟩ : ∃ ρ8, ρ8 = upd ρ6 g7 (10 + p.k) := ⟨_, rfl⟩
        rw [← hw8, ← hρ8] at F8 E8
        rw [show (fun j => if j = p.k then preRun ps i p.k ++ [ck] else preRun ps i j) = preRun ps (i + 1) from hstep] at E8
        have S8 := S6b.ex' hk5 F8 E8
        have T8 : objAt w8 w3.heap.size = some (.cells #[.int .i64 ((i : Int) + 1), .int .i64 0, .int .i64 p.create, .int .i64 p.version, .int .i64 0, .int .u32 0, .int .u32 0, .int .u8 0, .int .u8 0, .int .u8 0, .int .u8 0, .int .u8 0, .int .u8 0, .int .u8 0, .int .u8 0, .int .u8 0, .int .u8 0, .int .u8 0, .int .u8 0, .int .u8 0, .int .u8 0, .int .u8 0, .int .u8 0, .int .i64 p.lease] 56 (0, 0)) := F8.obj (F6a.obj T6 (fun e => e)) (by rw [show ρ6 w3.heap.size = 0 from r6]; omega)
        have r8 : ρ8 w3.heap.size = 0 := (F8.role _ (obj_lt (F6a.obj T6 (fun e => e)))).trans r6
        have a0 : w8.cell? ⟨w3.heap.size, 0, none⟩ = some (.int .i64 ((i : Int) + 1)) := obj_cell T8 0
        have a1 : w8.cell? ⟨w3.heap.size, 1, none⟩ = some (.int .i64 0) := obj_cell T8 1
        have hnb : (i + 1023) / 1024 < 1048576 := by omega
        have ta := tappend_any ρ8 X mb M2 (preRun ps (i + 1)) pl ⟨(i : Int) + 1, 0, hb⟩ ((i + 1023) / 1024) (.slice none 0 0) (.slice none 0 0) (.slice none 0 0) w8 hnb S8.ix
        have hpl : pl.length = i := Q1.len A1
        have enb : (if pl.length = (i + 1023) / 1024 * 1024 then (i + 1023) / 1024 + 1 else (i + 1023) / 1024) = (i + 1 + 1023) / 1024 := by rw [hpl]; split <;> omega
        rw [enb] at ta
        clear hnb enb
        have hrl := preRks_length ps i
        have q21 : i + 1 ≤ maxLen := by unfold maxLen; omega
        have q22 : (i + 1) * 8 ≤ 140737488355328 := by omega
        have q23 : (i + 1) * 16 ≤ 140737488355328 := by omega
        have N9 : ∀ w9 ρ9, Fr (fun r => 100 ≤ r ∧ r ≠ 106 ∧ r ≠ 107) ρ8 ρ9 w8 w9 → Ix w9 ρ9 X mb M2 (preRun ps (i + 1)) (pl ++ [⟨(i : Int) + 1, 0, hb⟩]) ((i + 1 + 1023) / 1024) (.slice none 0 0) (.slice none 0 0) (.slice none 0 0) →
            St w0 X mb EB w9 ρ9 M2 (preRun ps (i + 1)) (pl ++ [⟨(i : Int) + 1, 0, hb⟩]) ((i + 1 + 1023) / 1024) (preRun ps (i + 1)) (preRks ps i) (preRks ps i) u11 u12 ∧ objAt w9 w3.heap.size = some (.cells #[.int .i64 ((i : Int) + 1), .int .i64 0, .int .i64 p.create, .int .i64 p.version, .int .i64 0, .int .u32 0, .int .u32 0, .int .u8 0, .int .u8 0, .int .u8 0, .int .u8 0, .int .u8 0, .int .u8 0, .int .u8 0, .int .u8 0, .int .u8 0, .int .u8 0, .int .u8 0, .int .u8 0, .int .u8 0, .int .u8 0, .int .u8 0, .int .u8 0, .int .i64 p.lease] 56 (0, 0)) ∧ ρ9 w3.heap.size = 0 := fun w9 ρ9 F9 I9 => ⟨S8.ix' (F9.mono (fun _ e => e.1)) I9, F9.obj T8 (by rw [r8]; omega), (F9.role _ (obj_lt T8)).trans r8⟩
        replace hown7 := hid hown7
        replace hgr7 := hid hgr7
        replace hat7 := hid hat7
        replace F7 := hid F7
        replace F6a := hid F6a
        replace hown6 := hid hown6
        replace hsz6 := hid hsz6
        replace S6b := hid S6b
        replace F8 := hid F8
        replace E8 := hid E8
        replace S8 := hid S8
        replace T8 := hid T8
        replace r8 := hid r8
        replace hw8 := hid hw8
        replace hρ8 := hid hρ8
        replace ta := hid ta
        replace hpl := hid hpl
        replace hrl := hid hrl
        replace N9 := hid N9
        replace hw6a := hid hw6a
        replace hw6b := hid hw6b
        replace cEb := hid cEb
        have a0' := hid a0
        have a1' := hid a1
        clear a0 a1
        refine wpAnyN_one (i := 7) (by kernel_rfl) rfl (by rfl) (fun K hK => ?_)
        go_simp
        refine hK.out _ _ (fun _ => SG w7 F7) ?_
        clear hK
        refine wpAnyN_one (i := 8) (by kernel_rfl) rfl (by rfl) (fun K hK => ?_)
        go_simp
        refine hK.out _ _ (fun h => absurd rfl h) ?_
        clear hK
        refine wpAnyN_done (by kernel_rfl) ?_ _
        refine NoPanic.normal ?_
        rw [← hw8]
        clear y1 y2
        have a0 : w8.cell? ⟨w3.heap.size, 0, none⟩ = some (.int .i64 ((i : Int) + 1)) := a0'
        have a1 : w8.cell? ⟨w3.heap.size, 1, none⟩ = some (.int .i64 0) := a1'
        go_wp2_with (first
          | (go_at_call 6; refine Calls.mono ta ?_; intro e w9 hq; obtain ⟨ρ9, rfl, F9, I9⟩ := hq
             obtain ⟨S9, T9, r9⟩ := N9 w9 ρ9 F9 I9
             have hown21 : ∀ o', Hid ((w9.alloc o').ownsRow 0 3 1 u11 i (keysOf (preRks ps i))) := (fun o' => by
               have h := (St.pk S9).alloc o'
               rw [show (preRks ps i).length = i from hrl] at h
               exact h)
             replace F9 := hid F9
             replace I9 := hid I9
             replace S9 := hid S9
             replace T9 := hid T9
             replace r9 := hid r9)
          | (at_builtin; refine wpList_append_lies _ (by rfl) (.tmp 110) (.tmp 112) 40 (by rfl) 0 3 i3 (.int .i64 0) 1 8 Yba.underlying40 hi3 hb0 hb1 hb2 rfl (by decide) u11 i (keysOf (preRks ps i)) (by rfl) (hown21 _) ⟨w9.heap.size, 0, none⟩ 1 1 [.int .i64 (p.k : Int)] (by rfl) (by rfl) (World.news_of_block (heapN _ _ _ (by simp))) (by intro u hu; simp at hu; subst hu; rfl) (by decide) q21 q22 (Nat.zero_le _) (w9.heap.size + 1) (by simp) ?_; intro g10 cap10 w10 hown10 hgr10 hat10 hlt10
             obtain ⟨w9a, hw9a⟩ : ∃ w9a, w9a = w9.alloc (.cells #[.int .i64 (p.k : Int)] 3) := ⟨_, rfl⟩
             have F9a : Fr (fun _ => False) ρ9 ρ9 w9 w9a := (by rw [hw9a]; exact (Fr.refl _ ρ9 w9).alloc _)
             have hz9 : w9a.heap.size = w9.heap.size + 1 := (by rw [hw9a]; simp)
             rw [← hw9a] at hgr10
             have S9a := St.keep S9 F9a
             obtain ⟨F10, S10⟩ := St.pushK (r := ⟨(i : Int) + 1, 0, p.k⟩) S9a hgr10 (by rw [show (preRks ps i).length = i from hrl]; exact hown10) (_root_.Or.imp id (fun e => by rw [hz9]; exact Nat.le_of_eq e.symm) hat10) hlt10
             have T10 := F10.obj (F9a.obj T9 (fun e => e)) (by rw [show ρ9 w3.heap.size = 0 from r9]; omega)
             have b0 : w10.cell? ⟨w3.heap.size, 0, none⟩ = some (.int .i64 ((i : Int) + 1)) := obj_cell T10 0
             have b1 : w10.cell? ⟨w3.heap.size, 1, none⟩ = some (.int .i64 0) := obj_cell T10 1
             have hown22 : ∀ o', Hid ((w10.alloc o').ownsRow 0 49 2 u12 i (revsOf (preRks ps i))) := (fun o' => by
               have h := (St.pr S10).alloc o'
               rw [show (preRks ps i).length = i from hrl] at h
               exact h)
             replace hw9a := hid hw9a
             replace F9a := hid F9a
             replace hz9 := hid hz9
             replace hgr10 := hid hgr10
             replace S9a := hid S9a
             replace F10 := hid F10
             replace S10 := hid S10
             replace T10 := hid T10
             replace hown10 := hid hown10
             replace hat10 := hid hat10)
          | (at_builtin; refine wpList_append_lies _ (by rfl) (.tmp 114) (.tmp 117) 41 (by rfl) 0 49 i49 (.agg #[.int .i64 0, .int .i64 0]) 2 16 Yba.underlying41 hi49 hc0 hc1 hc2 rfl (by decide) u12 i (revsOf (preRks ps i)) (by rfl) (hown22 _) ⟨w10.heap.size, 0, none⟩ 1 1 [.int .i64 ((i : Int) + 1), .int .i64 0] (by rfl) (by rfl) (World.news_of_block (heapN _ _ _ (by simp))) (by intro u hu; simp at hu; rcases hu with rfl | rfl <;> rfl) (by decide) q21 q23 (Nat.zero_le _) (w10.heap.size + 1) (by simp) ?_; intro g12 cap12 w12 hown12 hgr12 hat12 hlt12
             obtain ⟨w10a, hw10a⟩ : ∃ w10a, w10a = w10.alloc (.cells #[.int .i64 ((i : Int) + 1), .int .i64 0] 49) := ⟨_, rfl⟩
             have F10a : Fr (fun _ => False) (upd ρ9 g10 3) (upd ρ9 g10 3) w10 w10a := (by rw [hw10a]; exact (Fr.refl _ _ w10).alloc _)
             have hz10 : w10a.heap.size = w10.heap.size + 1 := (by rw [hw10a]; simp)
             rw [← hw10a] at hgr12
             obtain ⟨F12, S12⟩ := St.pushR (r := ⟨(i : Int) + 1, 0, p.k⟩) (St.keep S10 F10a) hgr12 (by rw [show (preRks ps i).length = i from hrl]; exact hown12) (_root_.Or.imp id (fun e => by rw [hz10]; exact Nat.le_of_eq e.symm) hat12) hlt12
             replace S12 := hid S12
             clear F12 hown12 hgr12 hat12 F10a hz10 hw10a))
        have S12' := S12
        rw [show (preRks ps i).length = i from hrl] at S12'
        refine ⟨⟨i + 1, _, M2, _, hlt, by simp, Q1.next A1 hp hMk2 hext hoth S12'⟩, ?_⟩
        simp [intOf]
        omega
      | none =>
        rw [hMk] at hlk
        simp only [ptrOf] at hlk
        obtain ⟨hN, hhN⟩ : ∃ hN : Obj, hN = .cells #[.string (keyS p.k), .slice none 0 0, .int .i64 0] 47 := ⟨_, rfl⟩
        have F2 : Fr (fun _ => False) ρr ρr w1 (w1.alloc (.cells #[.string (keyS p.k), .slice none 0 0, .int .i64 0] 47)) := (Fr.refl _ ρr w1).alloc _
        obtain ⟨wM, hput, hmap, hgrM⟩ := ((St.ix S1).map.fr F2 (fun e => e)).put (b := w1.heap.size) hk5 hMk
        have cX2 : (w1.alloc (.cells #[.string (keyS p.k), .slice none 0 0, .int .i64 0] 47)).cell? ⟨X, 0, none⟩ = some (.map (some mb)) := F2.cell cX (fun e => e)
        obtain ⟨F3, I3⟩ := Ix.newHis (St.ix S1) hk5 hMk hgrM hmap
        have TM : objAt wM wr.heap.size = some (.cells #[.int .u8 key, .int .i64 p.create, .int .i64 p.version, .int .i64 p.lease] 43 (0, 0)) := F3.obj T14 (by rw [show ρr wr.heap.size = 0 from r14]; omega)
        have d1 : wM.cell? ⟨wr.heap.size, 1, none⟩ = some (.int .i64 p.create) := obj_cell TM 1
        have d2 : wM.cell? ⟨wr.heap.size, 2, none⟩ = some (.int .i64 p.version) := obj_cell TM 2
        have d3 : wM.cell? ⟨wr.heap.size, 3, none⟩ = some (.int .i64 p.lease) := obj_cell TM 3
        obtain ⟨hb, hhb⟩ : ∃ hb, hb = w1.heap.size := ⟨_, rfl⟩
        obtain ⟨M2, hM2⟩ : ∃ M2, M2 = setM M p.k w1.heap.size := ⟨_, rfl⟩
        have hMk2 : M2 p.k = some hb := by rw [hM2, hhb]; simp [setM]
        have hext : ∀ j b, M j = some b → M2 j = some b := by rw [hM2]; exact setM_ext hMk
        have hoth : ∀ j, j ≠ p.k → M2 j = M j := fun j h => by rw [hM2]; simp [setM, h]
        have S3 : St w0 X mb EB wM (upd ρr w1.heap.size (110 + p.k)) M2 (preRun ps i) pl ((i + 1023) / 1024) (preRun ps i) (preRks ps i) (preRks ps i) u11 u12 := by rw [hM2]; exact St.ix' S1 F3 I3
        obtain ⟨ρ2, hρ2⟩ : ∃ ρ2, ρ2 = upd ρr w1.heap.size (110 + p.k) := ⟨_, rfl⟩
        rw [← hρ2] at S3
        clear hmap hgrM hhN hN
        replace F2 := hid F2
        replace F3 := hid F3
        replace I3 := hid I3
        replace TM := hid TM
        replace hMk := hid hMk
        replace hM2 := hid hM2
        replace hMk2 := hid hMk2
        replace hext := hid hext
        replace hoth := hid hoth
        replace S3 := hid S3
        replace hhb := hid hhb
        replace hρ2 := hid hρ2
        go_wp2_with (first | (go_at_call 5; rw [← hw1]; refine Calls.mono ka ?_; rintro e w' ⟨rfl, hw'⟩; rw [hw']))
        rw [← show hb = w1.heap.size from hhb]
        clear hput cX2
        obtain ⟨w3, hw3⟩ : ∃ w3, w3 = wM := ⟨_, rfl⟩
        obtain ⟨ρ3, hρ3⟩ : ∃ ρ3, ρ3 = ρ2 := ⟨_, rfl⟩
        rw [← hw3, ← hρ3] at S3
        rw [← hw3]
        have S3' : St w0 X mb EB w3 ρ3 M2 (preRun ps i) pl ((i + 1023) / 1024) (preRun ps i) (preRks ps i) (preRks ps i) u11 u12 := S3
        obtain ⟨w4, hw4⟩ : ∃ w4, w4 = w3.alloc (.cells #[.int .i64 ((i : Int) + 1), .int .i64 0, .int .i64 p.create, .int .i64 p.version, .int .i64 0, .int .u32 0, .int .u32 0, .int .u8 0, .int .u8 0, .int .u8 0, .int .u8 0, .int .u8 0, .int .u8 0, .int .u8 0, .int .u8 0, .int .u8 0, .int .u8 0, .int .u8 0, .int .u8 0, .int .u8 0, .int .u8 0, .int .u8 0, .int .u8 0, .int .i64 p.lease] 56) := ⟨_, rfl⟩
        rw [← hw4]
        have F4 : Fr (fun _ => False) ρ3 ρ3 w3 w4 := by rw [hw4]; exact (Fr.refl _ ρ3 w3).alloc _
        have S4 := S3'.keep F4
        have T18 : objAt w4 w3.heap.size = some (.cells #[.int .i64 ((i : Int) + 1), .int .i64 0, .int .i64 p.create, .int .i64 p.version, .int .i64 0, .int .u32 0, .int .u32 0, .int .u8 0, .int .u8 0, .int .u8 0, .int .u8 0, .int .u8 0, .int .u8 0, .int .u8 0, .int .u8 0, .int .u8 0, .int .u8 0, .int .u8 0, .int .u8 0, .int .u8 0, .int .u8 0, .int .u8 0, .int .u8 0, .int .i64 p.lease] 56 (0, 0)) := by rw [hw4]; exact heapN _ _ _ rfl
        have r18 : ρ3 w3.heap.size = 0 := S3'.ix.tidy _ (Nat.le_refl _)
        have t18 : w3.heap.size < w4.heap.size := obj_lt T18
        obtain ⟨hhr, v, hho, hhw, hhg⟩ := S4.ix.his p.k hb hk5 hMk2
        have hlen : (preRun ps i p.k).length ≤ 4096 := by have := preRun_length ps p.k i; omega
        have hS4 : w4.drew.cell? ⟨hb, 1, none⟩ = some v ∧ objAt w4.drew w3.heap.size = some (.cells #[.int .i64 ((i : Int) + 1), .int .i64 0, .int .i64 p.create, .int .i64 p.version, .int .i64 0, .int .u32 0, .int .u32 0, .int .u8 0, .int .u8 0, .int .u8 0, .int .u8 0, .int .u8 0, .int .u8 0, .int .u8 0, .int .u8 0, .int .u8 0, .int .u8 0, .int .u8 0, .int .u8 0, .int .u8 0, .int .u8 0, .int .u8 0, .int .u8 0, .int .i64 p.lease] 56 (0, 0)) := ⟨obj_cell hho 1, T18⟩
        have SF : ∀ w', Fr (fun r => r = 120 + p.k) ρ3 ρ3 w4 w' → w'.cell? ⟨hb, 1, none⟩ = some v ∧ objAt w' w3.heap.size = some (.cells #[.int .i64 ((i : Int) + 1), .int .i64 0, .int .i64 p.create, .int .i64 p.version, .int .i64 0, .int .u32 0, .int .u32 0, .int .u8 0, .int .u8 0, .int .u8 0, .int .u8 0, .int .u8 0, .int .u8 0, .int .u8 0, .int .u8 0, .int .u8 0, .int .u8 0, .int .u8 0, .int .u8 0, .int .u8 0, .int .u8 0, .int .u8 0, .int .u8 0, .int .i64 p.lease] 56 (0, 0)) := fun w' h => ⟨h.cell (obj_cell hho 1) (by show ¬ (ρ3 hb = 120 + p.k); rw [hhr]; omega), h.obj T18 (by rw [r18]; omega)⟩
        have hq1 : (preRun ps i p.k).length + 1 ≤ maxLen := by unfold maxLen; omega
        have hq2 : ((preRun ps i p.k).length + 1) * 72 ≤ 140737488355328 := by omega
        have hstep : (fun j => if j = p.k then preRun ps i p.k ++ [ck] else preRun ps i j) = preRun ps (i + 1) := by
          funext j
          simp only [preRun]
          rw [← show p = ps i from hp, show ck = _ from hck]
          split
          · rename_i e
            rw [e]
          · rfl
        have hcc : ck.cells = (#[.int .i64 ((i : Int) + 1), .int .i64 0, .int .i64 p.create, .int .i64 p.version, .int .i64 0, .int .u32 0, .int .u32 0, .int .u8 0, .int .u8 0, .int .u8 0, .int .u8 0, .int .u8 0, .int .u8 0, .int .u8 0, .int .u8 0, .int .u8 0, .int .u8 0, .int .u8 0, .int .u8 0, .int .u8 0, .int .u8 0, .int .u8 0, .int .u8 0, .int .i64 p.lease] : Array Value).toList := by rw [show ck = _ from hck]; rfl
        replace S3' := hid S3'
        replace F4 := hid F4
        replace S4 := hid S4
        replace T18 := hid T18
        replace r18 := hid r18
        replace hhr := hid hhr
        replace hho := hid hho
        replace hhw := hid hhw
        replace hhg := hid hhg
        replace SF := hid SF
        replace hw4 := hid hw4
        replace hw3 := hid hw3
        replace hρ3 := hid hρ3
        replace hstep := hid hstep
        replace hcc := hid hcc
        replace hlen := hid hlen
        refine wp_region_noPanic (wp_region_N (fun w' => w'.cell? ⟨hb, 1, none⟩ = some v ∧ objAt w' w3.heap.size = some (.cells #[.int .i64 ((i : Int) + 1), .int .i64 0, .int .i64 p.create, .int .i64 p.version, .int .i64 0, .int .u32 0, .int .u32 0, .int .u8 0, .int .u8 0, .int .u8 0, .int .u8 0, .int .u8 0, .int .u8 0, .int .u8 0, .int .u8 0, .int .u8 0, .int .u8 0, .int .u8 0, .int .u8 0, .int .u8 0, .int .u8 0, .int .u8 0, .int .u8 0, .int .i64 p.lease] 56 (0, 0))) 10 (by kernel_rfl) ?_)
        replace hS4 := hid hS4
        refine wpAnyN_take (i := 0) (v := .pointer (some ⟨hb, 0, none⟩)) (by kernel_rfl) rfl (by kernel_rfl) (by kernel_rfl) (by kernel_rfl) (fun _ _ _ h => h) (by rfl) (fun w' hS => ?_) hS4 ?_
        · obtain ⟨s1, s2⟩ := hS
          go_simp
        simp only [Act.put, List.setIfInBounds_toArray, List.set_cons_zero, List.set_cons_succ]
        refine wpAnyN_take (i := 1) (v := .pointer (some ⟨hb, 0, none⟩)) (by kernel_rfl) rfl (by kernel_rfl) (by kernel_rfl) (by kernel_rfl) (fun _ _ _ h => h) (by rfl) (fun w' hS => ?_) hS4 ?_
        · obtain ⟨s1, s2⟩ := hS
          go_simp
        simp only [Act.put, List.setIfInBounds_toArray, List.set_cons_zero, List.set_cons_succ]
        refine wpAnyN_take (i := 2) (v := .pointer (some ⟨hb, 0, none⟩)) (by kernel_rfl) rfl (by kernel_rfl) (by kernel_rfl) (by kernel_rfl) (fun _ _ _ h => h) (by rfl) (fun w' hS => ?_) hS4 ?_
        · obtain ⟨s1, s2⟩ := hS
          go_simp
        simp only [Act.put, List.setIfInBounds_toArray, List.set_cons_zero, List.set_cons_succ]
        refine wpAnyN_take (i := 3) (v := .pointer (some ⟨hb, 1, none⟩)) (by kernel_rfl) rfl (by kernel_rfl) (by kernel_rfl) (by kernel_rfl) (fun _ _ _ h => h) (by rfl) (fun w' hS => ?_) hS4 ?_
        · obtain ⟨s1, s2⟩ := hS
          go_simp
        simp only [Act.put, List.setIfInBounds_toArray, List.set_cons_zero, List.set_cons_succ]
        refine wpAnyN_take (i := 4) (v := v) (by kernel_rfl) rfl (by kernel_rfl) (by kernel_rfl) (by kernel_rfl) (fun _ _ _ h => h) (by rfl) (fun w' hS => ?_) hS4 ?_
        · obtain ⟨s1, s2⟩ := hS
          go_simp
        simp only [Act.put, List.setIfInBounds_toArray, List.set_cons_zero, List.set_cons_succ]
        refine wpAnyN_take (i := 5) (v := .agg #[.int .i64 ((i : Int) + 1), .int .i64 0, .int .i64 p.create, .int .i64 p.version, .int .i64 0, .int .u32 0, .int .u32 0, .int .u8 0, .int .u8 0, .int .u8 0, .int .u8 0, .int .u8 0, .int .u8 0, .int .u8 0, .int .u8 0, .int .u8 0, .int .u8 0, .int .u8 0, .int .u8 0, .int .u8 0, .int .u8 0, .int .u8 0, .int .u8 0, .int .i64 p.lease]) (by kernel_rfl) rfl (by kernel_rfl) (by kernel_rfl) (by kernel_rfl) (fun _ _ _ h => h) (by rfl) (fun w' hS => ?_) hS4 ?_
        · obtain ⟨s1, s2⟩ := hS
          go_simp
        simp only [Act.put, List.setIfInBounds_toArray, List.set_cons_zero, List.set_cons_succ]
        refine wpAnyN_one (i := 6) (by kernel_rfl) rfl (by rfl) (fun K hK => ?_)
        go_simp
        obtain ⟨w4a, hw4a⟩ : ∃ w4a, w4a = w4.alloc (.cells #[.int .i64 ((i : Int) + 1), .int .i64 0, .int .i64 p.create, .int .i64 p.version, .int .i64 0, .int .u32 0, .int .u32 0, .int .u8 0, .int .u8 0, .int .u8 0, .int .u8 0, .int .u8 0, .int .u8 0, .int .u8 0, .int .u8 0, .int .u8 0, .int .u8 0, .int .u8 0, .int .u8 0, .int .u8 0, .int .u8 0, .int .u8 0, .int .u8 0, .int .i64 p.lease] 56) := ⟨_, rfl⟩
        obtain ⟨w4b, hw4b⟩ : ∃ w4b, w4b = w4a.drew := ⟨_, rfl⟩
        have F4a : Fr (fun r => r = 120 + p.k) ρ3 ρ3 w4 w4b := by rw [hw4b, hw4a]; exact ((Fr.refl _ ρ3 w4).alloc _).drew
        rw [← hw4a, ← hw4b]
        refine hK.out _ _ (fun _ => SF w4b F4a) ?_
        clear hK
        refine wpAnyN_one (i := 7) (by kernel_rfl) rfl (by rfl) (fun K hK => ?_)
        have hown4 : w4b.ownsRow 0 56 24 v (preRun ps i p.k).length (chgs (preRun ps i p.k)) := by
          rw [hw4b, hw4a]
          exact World.ownsRow.alloc hhw _
        have hsz4 : w4b.heap.size = w4.heap.size + 1 := by rw [hw4b, hw4a]; simp
        refine wp_append_lies w4b (.tmp 90) (.tmp 92) 38 (by rfl) 0 56 i56 (.agg (chgA 0 0 0 0 0 0 0 0)) 24 72 Yba.underlying38 hi56 hd0 hd1 hd2 rfl (by decide) v (preRun ps i p.k).length (chgs (preRun ps i p.k)) (by rfl) hown4 ⟨w4.heap.size, 0, none⟩ 1 1 ck.cells (by rfl) rfl ?_ ck.one (by decide) hq1 hq2 (Nat.zero_le _) (w4.heap.size + 1) hsz4 ?_
        · rw [show ck.cells = _ from hcc]
          exact World.news_of_block (by rw [hw4b, hw4a]; exact heapN _ _ _ rfl)
        intro g5 cap5 w5 hown5 hgr5 hat5 hlt5
        have F5 : Fr (fun r => r = 120 + p.k) ρ3 ρ3 w4 w5 := F4a.grown hgr5 (fun g e => hhg g e)
        refine hK.out _ _ (fun _ => SF w5 F5) ?_
        clear hK
        simp only [Act.put, List.setIfInBounds_toArray, List.set_cons_zero, List.set_cons_succ]
        have oH5 : objAt w5 hb = some (.cells #[.string (keyS p.k), v, .int .i64 0] 47 (0, 0)) := F5.obj hho (by rw [hhr]; omega)
        have y1 : w5.cell? ⟨hb, 1, none⟩ = some v := obj_cell oH5 1
        have y2 : w5.frozen? ⟨hb, 1, none⟩ = false := obj_frozen oH5 1
        obtain ⟨F6, H6⟩ := his_push (w := w4) (wC := w4b) (c := ck) hhr hho hhg F4a hgr5 hown5 (_root_.Or.imp id (fun e => by rw [hsz4]; exact Nat.le_of_eq e.symm) hat5) hlt5
        obtain ⟨w6, hw6⟩ : ∃ w6, w6 = w5.setCell ⟨hb, 1, none⟩ (.slice (some ⟨g5, 0, none⟩) ((preRun ps i p.k).length + 1) cap5) := ⟨_, rfl⟩
        obtain ⟨ρ6, hρ6⟩ : ∃ ρ6, ρ6 = upd ρ3 g5 (120 + p.k) := ⟨_, rfl⟩
        rw [← hw6, ← hρ6] at F6 H6
        have I6 := Ix.change (St.ix S4) hk5 hMk2 F6 H6
        rw [show (fun j => if j = p.k then preRun ps i p.k ++ [ck] else preRun ps i j) = preRun ps (i + 1) from hstep] at I6
        have S6 := St.ix' S4 (F6.mono (fun r e => by omega)) I6
        have T6 : objAt w6 w3.heap.size = some (.cells #[.int .i64 ((i : Int) + 1), .int .i64 0, .int .i64 p.create, .int .i64 p.version, .int .i64 0, .int .u32 0, .int .u32 0, .int .u8 0, .int .u8 0, .int .u8 0, .int .u8 0, .int .u8 0, .int .u8 0, .int .u8 0, .int .u8 0, .int .u8 0, .int .u8 0, .int .u8 0, .int .u8 0, .int .u8 0, .int .u8 0, .int .u8 0, .int .u8 0, .int .i64 p.lease] 56 (0, 0)) := F6.obj T18 (by rw [show ρ3 w3.heap.size = 0 from r18]; omega)
        have r6 : ρ6 w3.heap.size = 0 := (F6.role _ t18).trans r18
        obtain ⟨vE, cE, fE, oE, gEr⟩ := S6.ex.cell hk5
        have hS6 : ∀ q, (w6.drewN q).cell? ⟨EB, p.k, none⟩ = some vE ∧ objAt (w6.drewN q) w3.heap.size = some (.cells #[.int .i64 ((i : Int) + 1), .int .i64 0, .int .i64 p.create, .int .i64 p.version, .int .i64 0, .int .u32 0, .int .u32 0, .int .u8 0, .int .u8 0, .int .u8 0, .int .u8 0, .int .u8 0, .int .u8 0, .int .u8 0, .int .u8 0, .int .u8 0, .int .u8 0, .int .u8 0, .int .u8 0, .int .u8 0, .int .u8 0, .int .u8 0, .int .u8 0, .int .i64 p.lease] 56 (0, 0)) := fun q => ⟨cE, T6⟩
        have rE6 : ρ6 EB = 1 := S6.ex.rE
        have SG : ∀ w', Fr (fun r => r = 10 + p.k) ρ6 ρ6 w6 w' → w'.cell? ⟨EB, p.k, none⟩ = some vE ∧ objAt w' w3.heap.size = some (.cells #[.int .i64 ((i : Int) + 1), .int .i64 0, .int .i64 p.create, .int .i64 p.version, .int .i64 0, .int .u32 0, .int .u32 0, .int .u8 0, .int .u8 0, .int .u8 0, .int .u8 0, .int .u8 0, .int .u8 0, .int .u8 0, .int .u8 0, .int .u8 0, .int .u8 0, .int .u8 0, .int .u8 0, .int .u8 0, .int .u8 0, .int .u8 0, .int .u8 0, .int .i64 p.lease] 56 (0, 0)) := fun w' h => ⟨h.cell cE (by show ¬ (ρ6 EB = 10 + p.k); rw [rE6]; omega), h.obj T6 (by rw [r6]; omega)⟩
        replace hown5 := hid hown5
        replace hgr5 := hid hgr5
        replace hat5 := hid hat5
        replace F5 := hid F5
        replace F4a := hid F4a
        replace oH5 := hid oH5
        replace hw4a := hid hw4a
        replace hw4b := hid hw4b
        replace hown4 := hid hown4
        replace hsz4 := hid hsz4
        replace F6 := hid F6
        replace H6 := hid H6
        replace I6 := hid I6
        replace S6 := hid S6
        replace T6 := hid T6
        replace r6 := hid r6
        replace oE := hid oE
        replace gEr := hid gEr
        replace rE6 := hid rE6
        replace SG := hid SG
        replace hw6 := hid hw6
        replace hρ6 := hid hρ6
        have hS6' := hid hS6
        clear hS6
        have cE' := hid cE
        have fE' := hid fE
        clear cE fE
        refine wpAnyN_one (i := 8) (by kernel_rfl) rfl (by rfl) (fun K hK => ?_)
        go_simp
        refine hK.out _ _ (fun _ => SF w5 F5) ?_
        clear hK
        refine wpAnyN_one (i := 9) (by kernel_rfl) rfl (by rfl) (fun K hK => ?_)
        go_simp
        refine hK.out _ _ (fun _ => SF w5 F5) ?_
        clear hK
        refine wpAnyN_one (i := 10) (by kernel_rfl) rfl (by rfl) (fun K hK => ?_)
        go_simp
        refine hK.out _ _ (fun h => absurd rfl h) ?_
        clear hK
        refine wpAnyN_done (by kernel_rfl) ?_ _
        refine NoPanic.normal ?_
        rw [← hw6]
        clear y1 y2
        go_wp2
        refine wp_region_noPanic (wp_region_N (fun w' => w'.cell? ⟨EB, p.k, none⟩ = some vE ∧ objAt w' w3.heap.size = some (.cells #[.int .i64 ((i : Int) + 1), .int .i64 0, .int .i64 p.create, .int .i64 p.version, .int .i64 0, .int .u32 0, .int .u32 0, .int .u8 0, .int .u8 0, .int .u8 0, .int .u8 0, .int .u8 0, .int .u8 0, .int .u8 0, .int .u8 0, .int .u8 0, .int .u8 0, .int .u8 0, .int .u8 0, .int .u8 0, .int .u8 0, .int .u8 0, .int .u8 0, .int .i64 p.lease] 56 (0, 0))) 8 (by kernel_rfl) ?_)
        have hS6 := hid (hS6' 1)
        refine wpAnyN_take (i := 0) (v := .int .i64 (p.k : Int)) (by kernel_rfl) rfl (by kernel_rfl) (by kernel_rfl) (by kernel_rfl) (fun _ _ _ h => h) (by rfl) (fun w' hS => ?_) hS6 ?_
        · obtain ⟨s1, s2⟩ := hS
          go_simp
        simp only [Act.put, List.setIfInBounds_toArray, List.set_cons_zero, List.set_cons_succ]
        refine wpAnyN_take (i := 1) (v := .int .i64 (p.k : Int)) (by kernel_rfl) rfl (by kernel_rfl) (by kernel_rfl) (by kernel_rfl) (fun _ _ _ h => h) (by rfl) (fun w' hS => ?_) hS6 ?_
        · obtain ⟨s1, s2⟩ := hS
          go_simp
        simp only [Act.put, List.setIfInBounds_toArray, List.set_cons_zero, List.set_cons_succ]
        refine wpAnyN_take (i := 2) (v := .pointer (some ⟨EB, p.k, none⟩)) (by kernel_rfl) rfl (by kernel_rfl) (by kernel_rfl) (by kernel_rfl) (fun _ _ _ h => h) (by rfl) (fun w' hS => ?_) hS6 ?_
        · obtain ⟨s1, s2⟩ := hS
          go_simp
        simp only [Act.put, List.setIfInBounds_toArray, List.set_cons_zero, List.set_cons_succ]
        refine wpAnyN_take (i := 3) (v := vE) (by kernel_rfl) rfl (by kernel_rfl) (by kernel_rfl) (by kernel_rfl) (fun _ _ _ h => h) (by rfl) (fun w' hS => ?_) hS6 ?_
        · obtain ⟨s1, s2⟩ := hS
          go_simp
        simp only [Act.put, List.setIfInBounds_toArray, List.set_cons_zero, List.set_cons_succ]
        refine wpAnyN_take (i := 4) (v := .agg #[.int .i64 ((i : Int) + 1), .int .i64 0, .int .i64 p.create, .int .i64 p.version, .int .i64 0, .int .u32 0, .int .u32 0, .int .u8 0, .int .u8 0, .int .u8 0, .int .u8 0, .int .u8 0, .int .u8 0, .int .u8 0, .int .u8 0, .int .u8 0, .int .u8 0, .int .u8 0, .int .u8 0, .int .u8 0, .int .u8 0, .int .u8 0, .int .u8 0, .int .i64 p.lease]) (by kernel_rfl) rfl (by kernel_rfl) (by kernel_rfl) (by kernel_rfl) (fun _ _ _ h => h) (by rfl) (fun w' hS => ?_) hS6 ?_
        · obtain ⟨s1, s2⟩ := hS
          go_simp
        simp only [Act.put, List.setIfInBounds_toArray, List.set_cons_zero, List.set_cons_succ]
        refine wpAnyN_one (i := 5) (by kernel_rfl) rfl (by rfl) (fun K hK => ?_)
        go_simp
        obtain ⟨w6a, hw6a⟩ : ∃ w6a, w6a = w6.alloc (.cells #[.int .i64 ((i : Int) + 1), .int .i64 0, .int .i64 p.create, .int .i64 p.version, .int .i64 0, .int .u32 0, .int .u32 0, .int .u8 0, .int .u8 0, .int .u8 0, .int .u8 0, .int .u8 0, .int .u8 0, .int .u8 0, .int .u8 0, .int .u8 0, .int .u8 0, .int .u8 0, .int .u8 0, .int .u8 0, .int .u8 0, .int .u8 0, .int .u8 0, .int .i64 p.lease] 56) := ⟨_, rfl⟩
        obtain ⟨w6b, hw6b⟩ : ∃ w6b, w6b = w6a.drew := ⟨_, rfl⟩
        have F6a : Fr (fun _ => False) ρ6 ρ6 w6 w6b := by rw [hw6b, hw6a]; exact ((Fr.refl _ ρ6 w6).alloc _).drew
        rw [← hw6a, ← hw6b]
        refine hK.out _ _ (fun _ => SG w6b (F6a.mono (fun _ e => e.elim))) ?_
        clear hK
        refine wpAnyN_one (i := 6) (by kernel_rfl) rfl (by rfl) (fun K hK => ?_)
        have hown6 : w6b.ownsRow 0 56 24 vE (preRun ps i p.k).length (chgs (preRun ps i p.k)) := by
          rw [hw6b, hw6a]
          exact World.ownsRow.alloc oE _
        have hsz6 : w6b.heap.size = w6.heap.size + 1 := by rw [hw6b, hw6a]; simp
        refine wp_append_lies w6b (.tmp 99) (.tmp 101) 38 (by rfl) 0 56 i56 (.agg (chgA 0 0 0 0 0 0 0 0)) 24 72 Yba.underlying38 hi56 hd0 hd1 hd2 rfl (by decide) vE (preRun ps i p.k).length (chgs (preRun ps i p.k)) (by rfl) hown6 ⟨w6.heap.size, 0, none⟩ 1 1 ck.cells (by rfl) rfl ?_ ck.one (by decide) hq1 hq2 (Nat.zero_le _) (w6.heap.size + 1) hsz6 ?_
        · rw [show ck.cells = _ from hcc]
          exact World.news_of_block (by rw [hw6b, hw6a]; exact heapN _ _ _ rfl)
        intro g7 cap7 w7 hown7 hgr7 hat7 hlt7
        have F7 : Fr (fun r => r = 10 + p.k) ρ6 ρ6 w6 w7 := (F6a.mono (fun _ e => e.elim)).grown hgr7 (fun g e => gEr g e)
        refine hK.out _ _ (fun _ => SG w7 F7) ?_
        clear hK
        simp only [Act.put, List.setIfInBounds_toArray, List.set_cons_zero, List.set_cons_succ]
        have S6b := St.keep S6 F6a
        have cEb : w6b.cell? ⟨EB, p.k, none⟩ = some vE := F6a.cell cE' (fun e => e)
        have y1 : w7.cell? ⟨EB, p.k, none⟩ = some vE := (SG w7 F7).1
        have y2 : w7.frozen? ⟨EB, p.k, none⟩ = false := by
          obtain ⟨V, ho, _⟩ := (St.ex S6).ex
          exact obj_frozen (F7.obj ho (by rw [show ρ6 EB = 1 from rE6]; omega)) _
        obtain ⟨F8, E8⟩ := Ex.push (c := ck) S6b.ex hk5 cEb hgr7 hown7 (_root_.Or.imp id (fun e => by rw [hsz6]; exact Nat.le_of_eq e.symm) hat7) hlt7
        obtain ⟨w8, hw8⟩ : ∃ w8, w8 = w7.setCell ⟨EB, p.k, none⟩ (.slice (some ⟨g7, 0, none⟩) ((preRun ps i p.k).length + 1) cap7) := ⟨_, rfl⟩
        obtain ⟨ρ8, hρ8⟩ : ∃ ρ8, ρ8 = upd ρ6 g7 (10 + p.k) := ⟨_, rfl⟩
        rw [← hw8, ← hρ8] at F8 E8
        rw [show (fun j => if j = p.k then preRun ps i p.k ++ [ck] else preRun ps i j) = preRun ps (i + 1) from hstep] at E8
        have S8 := S6b.ex' hk5 F8 E8
        have T8 : objAt w8 w3.heap.size = some (.cells #[.int .i64 ((i : Int) + 1), .int .i64 0, .int .i64 p.create, .int .i64 p.version, .int .i64 0, .int .u32 0, .int .u32 0, .int .u8 0, .int .u8 0, .int .u8 0, .int .u8 0, .int .u8 0, .int .u8 0, .int .u8 0, .int .u8 0, .int .u8 0, .int .u8 0, .int .u8 0, .int .u8 0, .int .u8 0, .int .u8 0, .int .u8 0, .int .u8 0, .int .i64 p.lease] 56 (0, 0)) := F8.obj (F6a.obj T6 (fun e => e)) (by rw [show ρ6 w3.heap.size = 0 from r6]; omega)
        have r8 : ρ8 w3.heap.size = 0 := (F8.role _ (obj_lt (F6a.obj T6 (fun e => e)))).trans r6
        have a0 : w8.cell? ⟨w3.heap.size, 0, none⟩ = some (.int .i64 ((i : Int) + 1)) := obj_cell T8 0
        have a1 : w8.cell? ⟨w3.heap.size, 1, none⟩ = some (.int .i64 0) := obj_cell T8 1
        have hnb : (i + 1023) / 1024 < 1048576 := by omega
        have ta := tappend_any ρ8 X mb M2 (preRun ps (i + 1)) pl ⟨(i : Int) + 1, 0, hb⟩ ((i + 1023) / 1024) (.slice none 0 0) (.slice none 0 0) (.slice none 0 0) w8 hnb S8.ix
        have hpl : pl.length = i := Q1.len A1
        have enb : (if pl.length = (i + 1023) / 1024 * 1024 then (i + 1023) / 1024 + 1 else (i + 1023) / 1024) = (i + 1 + 1023) / 1024 := by rw [hpl]; split <;> omega
        rw [enb] at ta
        clear hnb enb
        have hrl := preRks_length ps i
        have q21 : i + 1 ≤ maxLen := by unfold maxLen; omega
        have q22 : (i + 1) * 8 ≤ 140737488355328 := by omega
        have q23 : (i + 1) * 16 ≤ 140737488355328 := by omega
        have N9 : ∀ w9 ρ9, Fr (fun r => 100 ≤ r ∧ r ≠ 106 ∧ r ≠ 107) ρ8 ρ9 w8 w9 → Ix w9 ρ9 X mb M2 (preRun ps (i + 1)) (pl ++ [⟨(i : Int) + 1, 0, hb⟩]) ((i + 1 + 1023) / 1024) (.slice none 0 0) (.slice none 0 0) (.slice none 0 0) →
            St w0 X mb EB w9 ρ9 M2 (preRun ps (i + 1)) (pl ++ [⟨(i : Int) + 1, 0, hb⟩]) ((i + 1 + 1023) / 1024) (preRun ps (i + 1)) (preRks ps i) (preRks ps i) u11 u12 ∧ objAt w9 w3.heap.size = some (.cells #[.int .i64 ((i : Int) + 1), .int .i64 0, .int .i64 p.create, .int .i64 p.version, .int .i64 0, .int .u32 0, .int .u32 0, .int .u8 0, .int .u8 0, .int .u8 0, .int .u8 0, .int .u8 0, .int .u8 0, .int .u8 0, .int .u8 0, .int .u8 0, .int .u8 0, .int .u8 0, .int .u8 0, .int .u8 0, .int .u8 0, .int .u8 0, .int .u8 0, .int .i64 p.lease] 56 (0, 0)) ∧ ρ9 w3.heap.size = 0 := fun w9 ρ9 F9 I9 => ⟨S8.ix' (F9.mono (fun _ e => e.1)) I9, F9.obj T8 (by rw [r8]; omega), (F9.role _ (obj_lt T8)).trans r8⟩
        replace hown7 := hid hown7
        replace hgr7 := hid hgr7
        replace hat7 := hid hat7
        replace F7 := hid F7
        replace F6a := hid F6a
        replace hown6 := hid hown6
        replace hsz6 := hid hsz6
        replace S6b := hid S6b
        replace F8 := hid F8
        replace E8 := hid E8
        replace S8 := hid S8
        replace T8 := hid T8
        replace r8 := hid r8
        replace hw8 := hid hw8
        replace hρ8 := hid hρ8
        replace ta := hid ta
        replace hpl := hid hpl
        replace hrl := hid hrl
        replace N9 := hid N9
        replace hw6a := hid hw6a
        replace hw6b := hid hw6b
        replace cEb := hid cEb
        have a0' := hid a0
        have a1' := hid a1
        clear a0 a1
        refine wpAnyN_one (i := 7) (by kernel_rfl) rfl (by rfl) (fun K hK => ?_)
        go_simp
        refine hK.out _ _ (fun _ => SG w7 F7) ?_
        clear hK
        refine wpAnyN_one (i := 8) (by kernel_rfl) rfl (by rfl) (fun K hK => ?_)
        go_simp
        refine hK.out _ _ (fun h => absurd rfl h) ?_
        clear hK
        refine wpAnyN_done (by kernel_rfl) ?_ _
        refine NoPanic.normal ?_
        rw [← hw8]
        clear y1 y2
        have a0 : w8.cell? ⟨w3.heap.size, 0, none⟩ = some (.int .i64 ((i : Int) + 1)) := a0'
        have a1 : w8.cell? ⟨w3.heap.size, 1, none⟩ = some (.int .i64 0) := a1'
        go_wp2_with (first
          | (go_at_call 6; refine Calls.mono ta ?_; intro e w9 hq; obtain ⟨ρ9, rfl, F9, I9⟩ := hq
             obtain ⟨S9, T9, r9⟩ := N9 w9 ρ9 F9 I9
             have hown21 : ∀ o', Hid ((w9.alloc o').ownsRow 0 3 1 u11 i (keysOf (preRks ps i))) := (fun o' => by
               have h := (St.pk S9).alloc o'
               rw [show (preRks ps i).length = i from hrl] at h
               exact h)
             replace F9 := hid F9
             replace I9 := hid I9
             replace S9 := hid S9
             replace T9 := hid T9
             replace r9 := hid r9)
          | (at_builtin; refine wpList_append_lies _ (by rfl) (.tmp 110) (.tmp 112) 40 (by rfl) 0 3 i3 (.int .i64 0) 1 8 Yba.underlying40 hi3 hb0 hb1 hb2 rfl (by decide) u11 i (keysOf (preRks ps i)) (by rfl) (hown21 _) ⟨w9.heap.size, 0, none⟩ 1 1 [.int .i64 (p.k : Int)] (by rfl) (by rfl) (World.news_of_block (heapN _ _ _ (by simp))) (by intro u hu; simp at hu; subst hu; rfl) (by decide) q21 q22 (Nat.zero_le _) (w9.heap.size + 1) (by simp) ?_; intro g10 cap10 w10 hown10 hgr10 hat10 hlt10
             obtain ⟨w9a, hw9a⟩ : ∃ w9a, w9a = w9.alloc (.cells #[.int .i64 (p.k : Int)] 3) := ⟨_, rfl⟩
             have F9a : Fr (fun _ => False) ρ9 ρ9 w9 w9a := (by rw [hw9a]; exact (Fr.refl _ ρ9 w9).alloc _)
             have hz9 : w9a.heap.size = w9.heap.size + 1 := (by rw [hw9a]; simp)
             rw [← hw9a] at hgr10
             have S9a := St.keep S9 F9a
             obtain ⟨F10, S10⟩ := St.pushK (r := ⟨(i : Int) + 1, 0, p.k⟩) S9a hgr10 (by rw [show (preRks ps i).length = i from hrl]; exact hown10) (_root_.Or.imp id (fun e => by rw [hz9]; exact Nat.le_of_eq e.symm) hat10) hlt10
             have T10 := F10.obj (F9a.obj T9 (fun e => e)) (by rw [show ρ9 w3.heap.size = 0 from r9]; omega)
             have b0 : w10.cell? ⟨w3.heap.size, 0, none⟩ = some (.int .i64 ((i : Int) + 1)) := obj_cell T10 0
             have b1 : w10.cell? ⟨w3.heap.size, 1, none⟩ = some (.int .i64 0) := obj_cell T10 1
             have hown22 : ∀ o', Hid ((w10.alloc o').ownsRow 0 49 2 u12 i (revsOf (preRks ps i))) := (fun o' => by
               have h := (St.pr S10).alloc o'
               rw [show (preRks ps i).length = i from hrl] at h
               exact h)
             replace hw9a := hid hw9a
             replace F9a := hid F9a
             replace hz9 := hid hz9
             replace hgr10 := hid hgr10
             replace S9a := hid S9a
             replace F10 := hid F10
             replace S10 := hid S10
             replace T10 := hid T10
             replace hown10 := hid hown10
             replace hat10 := hid hat10)
          | (at_builtin; refine wpList_append_lies _ (by rfl) (.tmp 114) (.tmp 117) 41 (by rfl) 0 49 i49 (.agg #[.int .i64 0, .int .i64 0]) 2 16 Yba.underlying41 hi49 hc0 hc1 hc2 rfl (by decide) u12 i (revsOf (preRks ps i)) (by rfl) (hown22 _) ⟨w10.heap.size, 0, none⟩ 1 1 [.int .i64 ((i : Int) + 1), .int .i64 0] (by rfl) (by rfl) (World.news_of_block (heapN _ _ _ (by simp))) (by intro u hu; simp at hu; rcases hu with rfl | rfl <;> rfl) (by decide) q21 q23 (Nat.zero_le _) (w10.heap.size + 1) (by simp) ?_; intro g12 cap12 w12 hown12 hgr12 hat12 hlt12
             obtain ⟨w10a, hw10a⟩ : ∃ w10a, w10a = w10.alloc (.cells #[.int .i64 ((i : Int) + 1), .int .i64 0] 49) := ⟨_, rfl⟩
             have F10a : Fr (fun _ => False) (upd ρ9 g10 3) (upd ρ9 g10 3) w10 w10a := (by rw [hw10a]; exact (Fr.refl _ _ w10).alloc _)
             have hz10 : w10a.heap.size = w10.heap.size + 1 := (by rw [hw10a]; simp)
             rw [← hw10a] at hgr12
             obtain ⟨F12, S12⟩ := St.pushR (r := ⟨(i : Int) + 1, 0, p.k⟩) (St.keep S10 F10a) hgr12 (by rw [show (preRks ps i).length = i from hrl]; exact hown12) (_root_.Or.imp id (fun e => by rw [hz10]; exact Nat.le_of_eq e.symm) hat12) hlt12
             replace S12 := hid S12
             clear F12 hown12 hgr12 hat12 F10a hz10 hw10a))
        have S12' := S12
        rw [show (preRks ps i).length = i from hrl] at S12'
        refine ⟨⟨i + 1, _, M2, _, hlt, by simp, Q1.next A1 hp hMk2 hext hoth S12'⟩, ?_⟩
        simp [intOf]
        omega
    · have k1 : ¬ ((i : Int) < (np : Int)) := by omega
      have hin' : i = np := by omega
      replace A1 := hid A1
      go_wp2
      rw [hin'] at A1
      exact hK _ _ _ _ A1
end Go.Proofs.Ybulkdljs
