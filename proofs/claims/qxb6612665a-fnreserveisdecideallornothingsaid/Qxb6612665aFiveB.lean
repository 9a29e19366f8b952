import Derived.Test.Qxb6612665aFiveA
import Derived.BigQuiet
namespace Go.Proofs.Qxb6612665a.W
open Go.RowKit
set_option linter.unusedVariables false

/-- the loops of a text, in order -/
def loopsOf : Code → List Code
  | .loop c => [c]
  | .seq a b => loopsOf a ++ loopsOf b
  | .block _ c => loopsOf c
  | .scope c => loopsOf c
  | .cond _ a b => loopsOf a ++ loopsOf b
  | _ => []
/-- the body of the law's loop number i -/
noncomputable def body5 (i : Nat) : Code := ((Try.f5.body.map loopsOf).getD []).getD i .skip

set_option maxRecDepth 1000000 in
set_option maxHeartbeats 4000000 in
theorem law5_loop1 (D : Dat) (a0 a1 a2 a3 a4 a5 a6 : Option Addr) (n c0 c1 c2 c3 c4 c5 c6 cn : Nat) (lg : Int) (hn : n ≤ 8192) (w : World) (HR : Hid (Rows7 D a0 a1 a2 a3 a4 a5 a6 n w)) (HWF : Hid (Wfs D.L D.P D.B D.NS D.FR n)) (HF : Hid (∀ i, i < n → FitAt lg cn (D.L i) (D.P i) (D.B i) (D.NS i) (D.FR i))) (w0 : World) (HS : Hid (BG D (fun _ => 0) n w.heap.size (w.heap.size + 1) 0 w w0)) (Q0 : Exit → Act → World → Prop) (v7 v8 v9 v10 v11 v12 v13 v14 v15 v16 v17 v18 v23 v24 v25 v26 v27 v28 v29 v30 v31 v32 v33 v34 v35 v36 v37 v38 v39 v40 v41 v42 v43 v44 v45 v46 v47 v48 v49 v50 v51 v52 v53 v54 v55 v56 v57 v58 v59 v60 v61 v62 v63 v64 v65 v66 v67 v68 v69 v70 v71 v72 v73 v74 v75 v76 v77 v78 v79 v80 v81 v82 v83 v84 v85 v86 v87 v88 v89 v90 v91 v92 v93 v94 v95 v96 v97 v98 v99 v100 v101 v102 v103 v104 v105 v106 v107 v108 v109 v110 v111 v112 v113 v114 v115 v116 v117 v118 v119 v120 v121 v122 v123 v124 v125 v126 v127 v128 v129 v130 v131 v132 v133 v134 v135 v136 v137 v138 v139 v140 v141 v142 v143 v144 v145 v146 v147 v148 v149 v150 v151 v152 v153 v154 v155 v156 v157 v158 v159 v160 v161 v162 v163 v164 v165 v166 v167 v168 v169 v170 v171 v172 v173 v174 v175 v176 v177 v178 v179 v180 v181 v182 v183 v184 v185 v186 v187 v188 v189 v190 v191 v192 v193 v194 v195 v196 v197 v198 v199 v200 v201 v202 v203 v204 v205 v206 v207 v208 v209 v210 v211 v212 v213 v214 v215 v216 v217 v218 v219 v220 v221 v222 v223 v224 v225 v226 v227 v228 v229 v230 v231 v232 v233 v234 v235 v236 v237 v238 v239 v240 v241 v242 v243 v244 v245 v246 v247 v248 v249 v250 v251 v252 v253 v254 v255 v256 v257 v258 v259 v260 v261 v262 v263 v264 v265 v266 v267 v268 v269 v270 v271 v272 v273 v274 v275 v276 v277 v278 v279 v280 v281 v282 v283 v284 v285 v286 v287 v288 v289 v290 v291 v292 v293 v294 v295 v296 v297 v298 v299 v300 v301 v302 v303 v304 v305 v306 v307 v308 v309 v310 v311 v312 v313 v314 v315 v316 v317 v318 v319 v320 v321 v322 v323 v324 v325 v326 v327 v328 v329 v330 v331 v332 v333 v334 v335 v336 v337 v338 v339 v340 v341 v342 v343 v344 v345 v346 v347 v348 v349 v350 v351 v352 v353 v354 v355 v356 v357 v358 v359 v360 v361 v362 v363 v364 v365 v366 v367 v368 v369 v370 v371 v372 v373 v374 v375 v376 v377 v378 v379 v380 v381 v382 v383 v384 v385 v386 v387 v388 v389 v390 v391 v392 v393 v394 v395 v396 v397 v398 v399 v400 v401 v402 v403 v404 v405 v406 v407 v408 v409 v410 v411 v412 v413 v414 v415 v416 v417 v418 v419 v420 v421 v422 v423 v424 v425 v426 v427 v428 v429 v430 v431 v432 v433 v434 v435 v436 v437 v438 v439 v440 v441 v442 v443 v444 v445 v446 v447 v448 v449 v450 v451 v452 v453 v454 v455 v456 v457 v458 v459 v460 v461 v462 v463 v464 v465 v466 v467 v468 v469 v470 v471 : Value)
    (hexit : ∀ (G : Nat → Nat) (wr : World) (u128 u129 u130 u131 u132 u133 u134 u135 u136 u137 u138 u139 u140 u141 u142 u143 u144 u145 u146 u147 u148 u149 u150 u151 u152 u153 u154 u155 u156 u157 u158 u159 u160 u161 u162 u163 u164 u165 u166 u167 u168 u169 u170 u171 u172 u173 : Value), Hid (BG D G n w.heap.size (w.heap.size + 1) n w wr) → Q0 (.exit 0) ⟨List.toArray (α := Value) (.slice a0 n c0 :: .slice a1 n c1 :: .slice a2 n c2 :: .slice a3 n c3 :: .slice a4 n c4 :: .slice a5 n c5 :: .slice a6 n c6 :: v7 :: v8 :: v9 :: v10 :: v11 :: v12 :: v13 :: v14 :: v15 :: v16 :: v17 :: v18 :: .int .i64 n :: .slice (some ⟨w.heap.size, 0, none⟩) n n :: .slice (some ⟨w.heap.size + 1, 0, none⟩) n n :: .int .i64 n :: v23 :: v24 :: v25 :: v26 :: v27 :: v28 :: v29 :: v30 :: v31 :: v32 :: v33 :: v34 :: v35 :: v36 :: v37 :: v38 :: v39 :: v40 :: v41 :: v42 :: v43 :: v44 :: v45 :: v46 :: v47 :: v48 :: v49 :: v50 :: v51 :: v52 :: v53 :: v54 :: v55 :: v56 :: v57 :: v58 :: v59 :: v60 :: v61 :: v62 :: v63 :: v64 :: v65 :: v66 :: v67 :: v68 :: v69 :: v70 :: v71 :: v72 :: v73 :: v74 :: v75 :: v76 :: v77 :: v78 :: v79 :: v80 :: v81 :: v82 :: v83 :: v84 :: v85 :: v86 :: v87 :: v88 :: v89 :: v90 :: v91 :: v92 :: v93 :: v94 :: v95 :: v96 :: v97 :: v98 :: v99 :: v100 :: v101 :: v102 :: v103 :: v104 :: v105 :: v106 :: v107 :: v108 :: v109 :: v110 :: v111 :: v112 :: v113 :: v114 :: v115 :: v116 :: v117 :: v118 :: v119 :: v120 :: v121 :: v122 :: v123 :: v124 :: v125 :: v126 :: v127 :: u128 :: u129 :: u130 :: u131 :: u132 :: u133 :: u134 :: u135 :: u136 :: u137 :: u138 :: u139 :: u140 :: u141 :: u142 :: u143 :: u144 :: u145 :: u146 :: u147 :: u148 :: u149 :: u150 :: u151 :: u152 :: u153 :: u154 :: u155 :: u156 :: u157 :: u158 :: u159 :: u160 :: u161 :: u162 :: u163 :: u164 :: u165 :: u166 :: u167 :: u168 :: u169 :: u170 :: u171 :: u172 :: u173 :: v174 :: v175 :: v176 :: v177 :: v178 :: v179 :: v180 :: v181 :: v182 :: v183 :: v184 :: v185 :: v186 :: v187 :: v188 :: v189 :: v190 :: v191 :: v192 :: v193 :: v194 :: v195 :: v196 :: v197 :: v198 :: v199 :: v200 :: v201 :: v202 :: v203 :: v204 :: v205 :: v206 :: v207 :: v208 :: v209 :: v210 :: v211 :: v212 :: v213 :: v214 :: v215 :: v216 :: v217 :: v218 :: v219 :: v220 :: v221 :: v222 :: v223 :: v224 :: v225 :: v226 :: v227 :: v228 :: v229 :: v230 :: v231 :: v232 :: v233 :: v234 :: v235 :: v236 :: v237 :: v238 :: v239 :: v240 :: v241 :: v242 :: v243 :: v244 :: v245 :: v246 :: v247 :: v248 :: v249 :: v250 :: v251 :: v252 :: v253 :: v254 :: v255 :: v256 :: v257 :: v258 :: v259 :: v260 :: v261 :: v262 :: v263 :: v264 :: v265 :: v266 :: v267 :: v268 :: v269 :: v270 :: v271 :: v272 :: v273 :: v274 :: v275 :: v276 :: v277 :: v278 :: v279 :: v280 :: v281 :: v282 :: v283 :: v284 :: v285 :: v286 :: v287 :: v288 :: v289 :: v290 :: v291 :: v292 :: v293 :: v294 :: v295 :: v296 :: v297 :: v298 :: v299 :: v300 :: v301 :: v302 :: v303 :: v304 :: v305 :: v306 :: v307 :: v308 :: v309 :: v310 :: v311 :: v312 :: v313 :: v314 :: v315 :: v316 :: v317 :: v318 :: v319 :: v320 :: v321 :: v322 :: v323 :: v324 :: v325 :: v326 :: v327 :: v328 :: v329 :: v330 :: v331 :: v332 :: v333 :: v334 :: v335 :: v336 :: v337 :: v338 :: v339 :: v340 :: v341 :: v342 :: v343 :: v344 :: v345 :: v346 :: v347 :: v348 :: v349 :: v350 :: v351 :: v352 :: v353 :: v354 :: v355 :: v356 :: v357 :: v358 :: v359 :: v360 :: v361 :: v362 :: v363 :: v364 :: v365 :: v366 :: v367 :: v368 :: v369 :: v370 :: v371 :: v372 :: v373 :: v374 :: v375 :: v376 :: v377 :: v378 :: v379 :: v380 :: v381 :: v382 :: v383 :: v384 :: v385 :: v386 :: v387 :: v388 :: v389 :: v390 :: v391 :: v392 :: v393 :: v394 :: v395 :: v396 :: v397 :: v398 :: v399 :: v400 :: v401 :: v402 :: v403 :: v404 :: v405 :: v406 :: v407 :: v408 :: v409 :: v410 :: v411 :: v412 :: v413 :: v414 :: v415 :: v416 :: v417 :: v418 :: v419 :: v420 :: v421 :: v422 :: v423 :: v424 :: v425 :: v426 :: v427 :: v428 :: v429 :: v430 :: v431 :: v432 :: v433 :: v434 :: v435 :: v436 :: v437 :: v438 :: v439 :: v440 :: v441 :: v442 :: v443 :: v444 :: v445 :: v446 :: v447 :: v448 :: v449 :: v450 :: v451 :: v452 :: v453 :: v454 :: v455 :: v456 :: v457 :: v458 :: v459 :: v460 :: v461 :: v462 :: v463 :: v464 :: v465 :: v466 :: v467 :: v468 :: v469 :: v470 :: v471 :: []), []⟩ wr) :
    Code.wp Try.prog (Code.loop (body5 0)) Q0 ⟨List.toArray (α := Value) (.slice a0 n c0 :: .slice a1 n c1 :: .slice a2 n c2 :: .slice a3 n c3 :: .slice a4 n c4 :: .slice a5 n c5 :: .slice a6 n c6 :: v7 :: v8 :: v9 :: v10 :: v11 :: v12 :: v13 :: v14 :: v15 :: v16 :: v17 :: v18 :: .int .i64 n :: .slice (some ⟨w.heap.size, 0, none⟩) n n :: .slice (some ⟨w.heap.size + 1, 0, none⟩) n n :: .int .i64 0 :: v23 :: v24 :: v25 :: v26 :: v27 :: v28 :: v29 :: v30 :: v31 :: v32 :: v33 :: v34 :: v35 :: v36 :: v37 :: v38 :: v39 :: v40 :: v41 :: v42 :: v43 :: v44 :: v45 :: v46 :: v47 :: v48 :: v49 :: v50 :: v51 :: v52 :: v53 :: v54 :: v55 :: v56 :: v57 :: v58 :: v59 :: v60 :: v61 :: v62 :: v63 :: v64 :: v65 :: v66 :: v67 :: v68 :: v69 :: v70 :: v71 :: v72 :: v73 :: v74 :: v75 :: v76 :: v77 :: v78 :: v79 :: v80 :: v81 :: v82 :: v83 :: v84 :: v85 :: v86 :: v87 :: v88 :: v89 :: v90 :: v91 :: v92 :: v93 :: v94 :: v95 :: v96 :: v97 :: v98 :: v99 :: v100 :: v101 :: v102 :: v103 :: v104 :: v105 :: v106 :: v107 :: v108 :: v109 :: v110 :: v111 :: v112 :: v113 :: v114 :: v115 :: v116 :: v117 :: v118 :: v119 :: v120 :: v121 :: v122 :: v123 :: v124 :: v125 :: v126 :: v127 :: v128 :: v129 :: v130 :: v131 :: v132 :: v133 :: v134 :: v135 :: v136 :: v137 :: v138 :: v139 :: v140 :: v141 :: v142 :: v143 :: v144 :: v145 :: v146 :: v147 :: v148 :: v149 :: v150 :: v151 :: v152 :: v153 :: v154 :: v155 :: v156 :: v157 :: v158 :: v159 :: v160 :: v161 :: v162 :: v163 :: v164 :: v165 :: v166 :: v167 :: v168 :: v169 :: v170 :: v171 :: v172 :: v173 :: v174 :: v175 :: v176 :: v177 :: v178 :: v179 :: v180 :: v181 :: v182 :: v183 :: v184 :: v185 :: v186 :: v187 :: v188 :: v189 :: v190 :: v191 :: v192 :: v193 :: v194 :: v195 :: v196 :: v197 :: v198 :: v199 :: v200 :: v201 :: v202 :: v203 :: v204 :: v205 :: v206 :: v207 :: v208 :: v209 :: v210 :: v211 :: v212 :: v213 :: v214 :: v215 :: v216 :: v217 :: v218 :: v219 :: v220 :: v221 :: v222 :: v223 :: v224 :: v225 :: v226 :: v227 :: v228 :: v229 :: v230 :: v231 :: v232 :: v233 :: v234 :: v235 :: v236 :: v237 :: v238 :: v239 :: v240 :: v241 :: v242 :: v243 :: v244 :: v245 :: v246 :: v247 :: v248 :: v249 :: v250 :: v251 :: v252 :: v253 :: v254 :: v255 :: v256 :: v257 :: v258 :: v259 :: v260 :: v261 :: v262 :: v263 :: v264 :: v265 :: v266 :: v267 :: v268 :: v269 :: v270 :: v271 :: v272 :: v273 :: v274 :: v275 :: v276 :: v277 :: v278 :: v279 :: v280 :: v281 :: v282 :: v283 :: v284 :: v285 :: v286 :: v287 :: v288 :: v289 :: v290 :: v291 :: v292 :: v293 :: v294 :: v295 :: v296 :: v297 :: v298 :: v299 :: v300 :: v301 :: v302 :: v303 :: v304 :: v305 :: v306 :: v307 :: v308 :: v309 :: v310 :: v311 :: v312 :: v313 :: v314 :: v315 :: v316 :: v317 :: v318 :: v319 :: v320 :: v321 :: v322 :: v323 :: v324 :: v325 :: v326 :: v327 :: v328 :: v329 :: v330 :: v331 :: v332 :: v333 :: v334 :: v335 :: v336 :: v337 :: v338 :: v339 :: v340 :: v341 :: v342 :: v343 :: v344 :: v345 :: v346 :: v347 :: v348 :: v349 :: v350 :: v351 :: v352 :: v353 :: v354 :: v355 :: v356 :: v357 :: v358 :: v359 :: v360 :: v361 :: v362 :: v363 :: v364 :: v365 :: v366 :: v367 :: v368 :: v369 :: v370 :: v371 :: v372 :: v373 :: v374 :: v375 :: v376 :: v377 :: v378 :: v379 :: v380 :: v381 :: v382 :: v383 :: v384 :: v385 :: v386 :: v387 :: v388 :: v389 :: v390 :: v391 :: v392 :: v393 :: v394 :: v395 :: v396 :: v397 :: v398 :: v399 :: v400 :: v401 :: v402 :: v403 :: v404 :: v405 :: v406 :: v407 :: v408 :: v409 :: v410 :: v411 :: v412 :: v413 :: v414 :: v415 :: v416 :: v417 :: v418 :: v419 :: v420 :: v421 :: v422 :: v423 :: v424 :: v425 :: v426 :: v427 :: v428 :: v429 :: v430 :: v431 :: v432 :: v433 :: v434 :: v435 :: v436 :: v437 :: v438 :: v439 :: v440 :: v441 :: v442 :: v443 :: v444 :: v445 :: v446 :: v447 :: v448 :: v449 :: v450 :: v451 :: v452 :: v453 :: v454 :: v455 :: v456 :: v457 :: v458 :: v459 :: v460 :: v461 :: v462 :: v463 :: v464 :: v465 :: v466 :: v467 :: v468 :: v469 :: v470 :: v471 :: []), []⟩ w0 := by
  have HEX := hide hexit
  clear hexit
  conv => arg 2; arg 1; whnf
  go_loopw [22] (fun iv wr => ∃ (k : Nat) (G : Nat → Nat), k ≤ n ∧ iv = .int .i64 k ∧ Hid (BG D G n w.heap.size (w.heap.size + 1) k w wr)) (fun i _ => n - (intOf i).toNat)
  case atStart => exact ⟨0, fun _ => 0, Nat.zero_le _, rfl, HS⟩
  case round =>
    obtain ⟨k, G, hk, rfl, HB⟩ := hrel
    by_cases hlt : k < n
    · have i1 : (k : Int) < (n : Int) := by omega
      obtain ⟨x0, rfl, -, m0⟩ := HR.out.r0 k hlt
      obtain ⟨x1, rfl, -, m1⟩ := HR.out.r1 k hlt
      obtain ⟨x2, rfl, -, m2⟩ := HR.out.r2 k hlt
      obtain ⟨x3, rfl, -, m3⟩ := HR.out.r3 k hlt
      obtain ⟨x4, rfl, -, m4⟩ := HR.out.r4 k hlt
      obtain ⟨x5, rfl, -, m5⟩ := HR.out.r5 k hlt
      obtain ⟨x6, rfl, -, m6⟩ := HR.out.r6 k hlt
      have kk := fun (A : Addr) (v : Value) (h : w.cell? A = some v) => (HB.out.bl.below.cell (p := A) (World.block_lt_of_cell? w _ h)).trans h
      have ka := fun (A : Addr) (v : Value) (h : w.cell? A = some v) => World.block_lt_of_cell? w _ h
      have K0 := hide (show HO w w.heap.size [(x0.add k, .int .u64 (D.L k)), (x1.add k, .int .u64 (D.P k)), (x2.add k, .int .i64 (D.B k)), (x3.add k, .bool (D.Q k)), (x4.add k, .int .i64 (D.NS k)), (x5.add k, .int .u64 (D.FR k)), (x6.add k, .int .u64 (D.LT k))] wr from ⟨kk _ _ m0, kk _ _ m1, kk _ _ m2, kk _ _ m3, kk _ _ m4, kk _ _ m5, kk _ _ m6, HB.out.bl.below, HB.out.own⟩)
      have NA : Hid (∀ b, w.heap.size ≤ b → (x0.add k).block ≠ b ∧ (x1.add k).block ≠ b ∧ (x2.add k).block ≠ b ∧ (x3.add k).block ≠ b ∧ (x4.add k).block ≠ b ∧ (x5.add k).block ≠ b ∧ (x6.add k).block ≠ b) := fun b hb => by
        have := ka _ _ m0; have := ka _ _ m1; have := ka _ _ m2; have := ka _ _ m3; have := ka _ _ m4; have := ka _ _ m5; have := ka _ _ m6
        omega
      clear m0 m1 m2 m3 m4 m5 m6 kk ka
      have hL1 : Hid (∀ x ∈ ([(x0.add k, .int .u64 (D.L k)), (x1.add k, .int .u64 (D.P k)), (x2.add k, .int .i64 (D.B k)), (x3.add k, .bool (D.Q k)), (x4.add k, .int .i64 (D.NS k)), (x5.add k, .int .u64 (D.FR k)), (x6.add k, .int .u64 (D.LT k))] : List (Addr × Value)), x.1.block ≠ w.heap.size) := by
        obtain ⟨n0, n1, n2, n3, n4, n5, n6⟩ := NA.out w.heap.size (Nat.le_refl _)
        intro x hx
        simp only [List.mem_cons, List.not_mem_nil, or_false] at hx
        rcases hx with rfl | rfl | rfl | rfl | rfl | rfl | rfl <;> assumption
      have FA := hide (HF.out k hlt)
      have fr0 := hide (HWF.out.fr k hlt)
      have CA := hide (chk_A (D.NS k) (D.FR k) (D.L k) FA.out.l0 FA.out.ns0 fr0.out.1 FA.out.frl)
      have NL := hide (newgcraI (D.L k) (D.P k) (D.B k) FA.out.l0 (by have := FA.out.l1; omega) (by have := FA.out.p0; omega) (by have := FA.out.p1; omega) (by have := FA.out.cb; omega) (by have := FA.out.b1; omega) (Wfs.tol FA.out))
      have hz : Hid (w.heap.size + 1 < wr.heap.size) := HB.out.bl.own.1
      go_upto_region 27 with fail
      go_region_held3 (fun w' => w'.cell? (x0.add k) = some (.int .u64 (D.L k)) ∧ w'.cell? (x1.add k) = some (.int .u64 (D.P k)) ∧ w'.cell? (x2.add k) = some (.int .i64 (D.B k)) ∧ w'.cell? (x3.add k) = some (.bool (D.Q k)) ∧ w'.cell? (x4.add k) = some (.int .i64 (D.NS k)) ∧ w'.cell? (x5.add k) = some (.int .u64 (D.FR k)) ∧ w'.cell? (x6.add k) = some (.int .u64 (D.LT k)) ∧ Below w.heap.size w w' ∧ Own w.heap.size w')
        (first | with_reducible exact K0.out.drew | with_reducible exact K1.out | with_reducible exact K1.out.put hL1.out (Nat.le_refl _) _)
        ((go_at_call 13; refine (NL.out _).mono ?_; rintro e w1 ⟨rfl, hb1, hg1⟩; have K1 := hide (K0.out.drew.call hb1); have T1 := hide (HB.out.drew.call hb1); have GG1 := hide hg1; obtain ⟨v0, e0⟩ := Option.isSome_iff_exists.mp (T1.out.there k hlt); have fr := T1.out.own.2))
      obtain ⟨P1, P2, P3, P4, P5⟩ := T1.out.put (g := wr.heap.size) hlt
      have K2 := hide (K1.out.put (o := k) hL1.out (Nat.le_refl _) (.pointer (some ⟨wr.heap.size, 0, none⟩)))
      have GG2 : Hid (GC wr.heap.size (D.L k).toNat (D.P k).toNat (D.B k).toNat (w1.setCell ⟨w.heap.size, k, none⟩ (.pointer (some ⟨wr.heap.size, 0, none⟩)))) := (heap_setCell_other w1 ⟨w.heap.size, k, none⟩ wr.heap.size _ (by have := hz.out; show wr.heap.size ≠ w.heap.size; omega)).trans GG1.out
      have PP5 : Hid (∀ i, i < k → (w1.setCell ⟨w.heap.size, k, none⟩ (.pointer (some ⟨wr.heap.size, 0, none⟩))).cell? ⟨w.heap.size, i, none⟩ = some (.pointer (some ⟨G i, 0, none⟩)) ∧ G i ≠ w.heap.size) := fun i hi => ⟨P5 i hi, (HB.out.ptr i hi).2⟩
      have PP1 := hide P1
      have PP2 := hide P2
      have PP3 := hide P3
      have PP4 := hide P4
      rename_i hHeld
      clear hHeld P1 P2 P3 P4 P5 e0 fr hb1 hg1 K0 K1 T1 GG1
      generalize w1.setCell ⟨w.heap.size, k, none⟩ (.pointer (some ⟨wr.heap.size, 0, none⟩)) = W1 at *
      obtain ⟨q0, q1, q2, q3, q4, q5, q6, -, -⟩ := K2.out
      have K3 := hide (show HO w (w.heap.size + 1) ((⟨w.heap.size, k, none⟩, (.pointer (some ⟨wr.heap.size, 0, none⟩))) :: [(x0.add k, .int .u64 (D.L k)), (x1.add k, .int .u64 (D.P k)), (x2.add k, .int .i64 (D.B k)), (x3.add k, .bool (D.Q k)), (x4.add k, .int .i64 (D.NS k)), (x5.add k, .int .u64 (D.FR k)), (x6.add k, .int .u64 (D.LT k))]) W1 from ⟨PP4.out, q0, q1, q2, q3, q4, q5, q6, PP1.out.below, PP1.out.own⟩)
      have hL2 : Hid (∀ x ∈ ((⟨w.heap.size, k, none⟩, (.pointer (some ⟨wr.heap.size, 0, none⟩))) :: [(x0.add k, .int .u64 (D.L k)), (x1.add k, .int .u64 (D.P k)), (x2.add k, .int .i64 (D.B k)), (x3.add k, .bool (D.Q k)), (x4.add k, .int .i64 (D.NS k)), (x5.add k, .int .u64 (D.FR k)), (x6.add k, .int .u64 (D.LT k))] : List (Addr × Value)), x.1.block ≠ w.heap.size + 1) := by
        obtain ⟨n0, n1, n2, n3, n4, n5, n6⟩ := NA.out (w.heap.size + 1) (by omega)
        intro x hx
        simp only [List.mem_cons, List.not_mem_nil, or_false] at hx
        rcases hx with rfl | rfl | rfl | rfl | rfl | rfl | rfl | rfl
        · show w.heap.size ≠ w.heap.size + 1
          omega
        all_goals assumption
      have hq2 : Hid (w.heap.size ≤ w.heap.size + 1) := Nat.le_succ _
      clear q0 q1 q2 q3 q4 q5 q6 K2 hL1
      obtain ⟨v0, v1, v2, v3, v4, e0, e1, e2, e3, e4⟩ := PP1.out.cells hlt
      have fr := PP1.out.own.2
      go_upto_region 28 with fail
      go_region_held3 (fun w' => w'.cell? ⟨w.heap.size, k, none⟩ = some (.pointer (some ⟨wr.heap.size, 0, none⟩)) ∧ w'.cell? (x0.add k) = some (.int .u64 (D.L k)) ∧ w'.cell? (x1.add k) = some (.int .u64 (D.P k)) ∧ w'.cell? (x2.add k) = some (.int .i64 (D.B k)) ∧ w'.cell? (x3.add k) = some (.bool (D.Q k)) ∧ w'.cell? (x4.add k) = some (.int .i64 (D.NS k)) ∧ w'.cell? (x5.add k) = some (.int .u64 (D.FR k)) ∧ w'.cell? (x6.add k) = some (.int .u64 (D.LT k)) ∧ Below w.heap.size w w' ∧ Own (w.heap.size + 1) w')
        (first | with_reducible exact K3.out | with_reducible exact K3.out.drew | with_reducible exact K3.out.drew.put5 hL2.out hq2.out _ _ _ _ _ | with_reducible exact (K3.out.put5 hL2.out hq2.out _ _ _ _ _).drew)
        (fail)
      have T2 := hide (BG.step (W := W1) (v0 := v0) (v1 := v1) (v2 := v2) (v3 := v3) (v4 := v4) PP1.out PP2.out PP3.out PP4.out PP5.out (Nat.le_refl _) (by omega) GG2.out (by have := hz.out; show wr.heap.size ≠ w.heap.size + 1; omega) (by have := hz.out; show wr.heap.size ≠ w.heap.size; omega) CA.out.1 CA.out.2 e0 e1 e2 e3 e4).drew
      clear e0 e1 e2 e3 e4 fr
      go_wp2_with fail
      go_roundw
      case rel => exact ⟨k + 1, _, by omega, by go_num, T2⟩
      case measure => simp [intOf]; omega
    · have i1 : ¬ (k : Int) < (n : Int) := by omega
      have e : k = n := by omega
      subst e
      go_wp2_with fail
      exact HEX.out _ _ _ _ _ _ _ _ _ _ _ _ _ _ _ _ _ _ _ _ _ _ _ _ _ _ _ _ _ _ _ _ _ _ _ _ _ _ _ _ _ _ _ _ _ _ _ _ HB
end Go.Proofs.Qxb6612665a.W
