import Derived.Test.Qxb6612665aFiveR
import Derived.BigQuiet
namespace Go.Proofs.Qxb6612665a.W
open Go.RowKit
set_option linter.unusedVariables false

set_option maxRecDepth 1000000 in
set_option maxHeartbeats 4000000 in
theorem law5_loop2 (D : Dat) (C : Nat → Chk) (a0 a1 a2 a3 a4 a5 a6 : Option Addr) (k c0 c1 c2 c3 c4 c5 c6 cn gb s1 n1 : Nat) (z8 dl : Int) (ad : Bool) (hn : k ≤ 8192) (h8 : z8 ≤ 9223372036854775807) (w1 : World) (HE : Hid (E5 D C k cn gb s1 n1 z8 ad dl w1)) (HR1 : Hid (Rows7 D a0 a1 a2 a3 a4 a5 a6 k w1)) (w0 : World) (HS : Hid (RD C cn k w1.heap.size z8 0 0 0 0 w1 w0)) (Q0 : Exit → Act → World → Prop) (v9 v10 v11 v12 v13 v14 v15 v16 v17 v18 v21 v22 v23 v24 v25 v26 v34 v35 v36 v37 v38 v39 v40 v41 v42 v43 v44 v45 v46 v47 v48 v49 v50 v51 v52 v53 v54 v55 v56 v57 v58 v59 v60 v61 v62 v63 v64 v65 v66 v67 v68 v69 v70 v71 v72 v73 v74 v75 v76 v77 v78 v79 v80 v81 v82 v83 v84 v85 v86 v87 v88 v89 v90 v91 v92 v93 v94 v95 v96 v97 v98 v99 v100 v101 v102 v103 v104 v105 v106 v107 v108 v109 v110 v111 v112 v113 v114 v115 v116 v117 v118 v119 v120 v121 v122 v123 v124 v125 v126 v127 v128 v129 v130 v131 v132 v133 v134 v135 v136 v137 v138 v139 v140 v141 v142 v143 v144 v145 v146 v147 v148 v149 v150 v151 v152 v153 v154 v155 v156 v157 v158 v159 v160 v161 v162 v163 v164 v165 v166 v167 v168 v169 v170 v171 v172 v173 v174 v175 v176 v177 v178 v179 v180 v181 v182 v183 v184 v185 v186 v187 v188 v189 v190 v191 v192 v193 v194 v195 v196 v197 v198 v199 v200 v201 v202 v203 v204 v205 v206 v207 v208 v209 v210 v211 v212 v213 v214 v215 v216 v217 v218 v219 v220 v221 v222 v223 v224 v225 v226 v227 v228 v229 v230 v231 v232 v233 v234 v235 v236 v237 v238 v239 v240 v241 v242 v243 v244 v245 v246 v247 v248 v249 v250 v251 v252 v253 v254 v255 v256 v257 v258 v259 v260 v261 v262 v263 v264 v265 v266 v267 v268 v269 v270 v271 v272 v273 v274 v275 v276 v277 v278 v279 v280 v281 v282 v283 v284 v285 v286 v287 v288 v289 v290 v291 v292 v293 v294 v295 v296 v297 v298 v299 v300 v301 v302 v303 v304 v305 v306 v307 v308 v309 v310 v311 v312 v313 v314 v315 v316 v317 v318 v319 v320 v321 v322 v323 v324 v325 v326 v327 v328 v329 v330 v331 v332 v333 v334 v335 v336 v337 v338 v339 v340 v341 v342 v343 v344 v345 v346 v347 v348 v349 v350 v351 v352 v353 v354 v355 v356 v357 v358 v359 v360 v361 v362 v363 v364 v365 v366 v367 v368 v369 v370 v371 v372 v373 v374 v375 v376 v377 v378 v379 v380 v381 v382 v383 v384 v385 v386 v387 v388 v389 v390 v391 v392 v393 v394 v395 v396 v397 v398 v399 v400 v401 v402 v403 v404 v405 v406 v407 v408 v409 v410 v411 v412 v413 v414 v415 v416 v417 v418 v419 v420 v421 v422 v423 v424 v425 v426 v427 v428 v429 v430 v431 v432 v433 v434 v435 v436 v437 v438 v439 v440 v441 v442 v443 v444 v445 v446 v447 v448 v449 v450 v451 v452 v453 v454 v455 v456 v457 v458 v459 v460 v461 v462 v463 v464 v465 v466 v467 v468 v469 v470 v471 : Value)
    (hexit : ∀ (wr : World) (u34 u35 u36 u37 u38 u39 u195 u196 u197 u198 u199 u200 u201 u202 u203 u204 u205 u206 u207 u208 u209 u210 u211 u212 u213 u214 u215 u216 u217 u218 u219 u220 u221 u222 u223 u224 u225 u226 u227 u228 u229 u230 u231 u232 u233 u234 u235 u236 u237 u238 u239 u240 u241 u242 u243 u244 u245 u246 u247 u248 u249 u250 u251 u252 u253 u254 u255 u256 u257 u258 u259 u260 u261 u262 u263 u264 u265 u266 u267 u268 u269 u270 u271 u272 u273 u274 u275 u276 u277 u278 u279 u280 u281 u282 u283 u284 u285 u286 u287 u288 u289 u290 : Value), Hid (RD C cn k w1.heap.size z8 k k k k w1 wr) → Q0 (.exit 2) ⟨List.toArray (α := Value) (.slice a0 k c0 :: .slice a1 k c1 :: .slice a2 k c2 :: .slice a3 k c3 :: .slice a4 k c4 :: .slice a5 k c5 :: .slice a6 k c6 :: .int .i64 cn :: .int .i64 z8 :: v9 :: v10 :: v11 :: v12 :: v13 :: v14 :: v15 :: v16 :: v17 :: v18 :: .int .i64 k :: .slice (some ⟨gb, 0, none⟩) k k :: v21 :: v22 :: v23 :: v24 :: v25 :: v26 :: .slice (some ⟨w1.heap.size, 0, none⟩) k k :: .slice (some ⟨w1.heap.size + 1, 0, none⟩) k k :: .slice (some ⟨w1.heap.size + 2, 0, none⟩) k k :: .slice (some ⟨w1.heap.size + 3, 0, none⟩) k k :: .bool (adm C cn z8 k) :: .int .i64 (del C cn k) :: .int .i64 k :: u34 :: u35 :: u36 :: u37 :: u38 :: u39 :: v40 :: v41 :: v42 :: v43 :: v44 :: v45 :: v46 :: v47 :: v48 :: v49 :: v50 :: v51 :: v52 :: v53 :: v54 :: v55 :: v56 :: v57 :: v58 :: v59 :: v60 :: v61 :: v62 :: v63 :: v64 :: v65 :: v66 :: v67 :: v68 :: v69 :: v70 :: v71 :: v72 :: v73 :: v74 :: v75 :: v76 :: v77 :: v78 :: v79 :: v80 :: v81 :: v82 :: v83 :: v84 :: v85 :: v86 :: v87 :: v88 :: v89 :: v90 :: v91 :: v92 :: v93 :: v94 :: v95 :: v96 :: v97 :: v98 :: v99 :: v100 :: v101 :: v102 :: v103 :: v104 :: v105 :: v106 :: v107 :: v108 :: v109 :: v110 :: v111 :: v112 :: v113 :: v114 :: v115 :: v116 :: v117 :: v118 :: v119 :: v120 :: v121 :: v122 :: v123 :: v124 :: v125 :: v126 :: v127 :: v128 :: v129 :: v130 :: v131 :: v132 :: v133 :: v134 :: v135 :: v136 :: v137 :: v138 :: v139 :: v140 :: v141 :: v142 :: v143 :: v144 :: v145 :: v146 :: v147 :: v148 :: v149 :: v150 :: v151 :: v152 :: v153 :: v154 :: v155 :: v156 :: v157 :: v158 :: v159 :: v160 :: v161 :: v162 :: v163 :: v164 :: v165 :: v166 :: v167 :: v168 :: v169 :: v170 :: v171 :: v172 :: v173 :: v174 :: v175 :: v176 :: v177 :: v178 :: v179 :: v180 :: v181 :: v182 :: v183 :: v184 :: v185 :: v186 :: v187 :: v188 :: v189 :: v190 :: v191 :: v192 :: v193 :: v194 :: u195 :: u196 :: u197 :: u198 :: u199 :: u200 :: u201 :: u202 :: u203 :: u204 :: u205 :: u206 :: u207 :: u208 :: u209 :: u210 :: u211 :: u212 :: u213 :: u214 :: u215 :: u216 :: u217 :: u218 :: u219 :: u220 :: u221 :: u222 :: u223 :: u224 :: u225 :: u226 :: u227 :: u228 :: u229 :: u230 :: u231 :: u232 :: u233 :: u234 :: u235 :: u236 :: u237 :: u238 :: u239 :: u240 :: u241 :: u242 :: u243 :: u244 :: u245 :: u246 :: u247 :: u248 :: u249 :: u250 :: u251 :: u252 :: u253 :: u254 :: u255 :: u256 :: u257 :: u258 :: u259 :: u260 :: u261 :: u262 :: u263 :: u264 :: u265 :: u266 :: u267 :: u268 :: u269 :: u270 :: u271 :: u272 :: u273 :: u274 :: u275 :: u276 :: u277 :: u278 :: u279 :: u280 :: u281 :: u282 :: u283 :: u284 :: u285 :: u286 :: u287 :: u288 :: u289 :: u290 :: v291 :: v292 :: v293 :: v294 :: v295 :: v296 :: v297 :: v298 :: v299 :: v300 :: v301 :: v302 :: v303 :: v304 :: v305 :: v306 :: v307 :: v308 :: v309 :: v310 :: v311 :: v312 :: v313 :: v314 :: v315 :: v316 :: v317 :: v318 :: v319 :: v320 :: v321 :: v322 :: v323 :: v324 :: v325 :: v326 :: v327 :: v328 :: v329 :: v330 :: v331 :: v332 :: v333 :: v334 :: v335 :: v336 :: v337 :: v338 :: v339 :: v340 :: v341 :: v342 :: v343 :: v344 :: v345 :: v346 :: v347 :: v348 :: v349 :: v350 :: v351 :: v352 :: v353 :: v354 :: v355 :: v356 :: v357 :: v358 :: v359 :: v360 :: v361 :: v362 :: v363 :: v364 :: v365 :: v366 :: v367 :: v368 :: v369 :: v370 :: v371 :: v372 :: v373 :: v374 :: v375 :: v376 :: v377 :: v378 :: v379 :: v380 :: v381 :: v382 :: v383 :: v384 :: v385 :: v386 :: v387 :: v388 :: v389 :: v390 :: v391 :: v392 :: v393 :: v394 :: v395 :: v396 :: v397 :: v398 :: v399 :: v400 :: v401 :: v402 :: v403 :: v404 :: v405 :: v406 :: v407 :: v408 :: v409 :: v410 :: v411 :: v412 :: v413 :: v414 :: v415 :: v416 :: v417 :: v418 :: v419 :: v420 :: v421 :: v422 :: v423 :: v424 :: v425 :: v426 :: v427 :: v428 :: v429 :: v430 :: v431 :: v432 :: v433 :: v434 :: v435 :: v436 :: v437 :: v438 :: v439 :: v440 :: v441 :: v442 :: v443 :: v444 :: v445 :: v446 :: v447 :: v448 :: v449 :: v450 :: v451 :: v452 :: v453 :: v454 :: v455 :: v456 :: v457 :: v458 :: v459 :: v460 :: v461 :: v462 :: v463 :: v464 :: v465 :: v466 :: v467 :: v468 :: v469 :: v470 :: v471 :: []), []⟩ wr) :
    Code.wp Try.prog (Code.loop (body5 1)) Q0 ⟨List.toArray (α := Value) (.slice a0 k c0 :: .slice a1 k c1 :: .slice a2 k c2 :: .slice a3 k c3 :: .slice a4 k c4 :: .slice a5 k c5 :: .slice a6 k c6 :: .int .i64 cn :: .int .i64 z8 :: v9 :: v10 :: v11 :: v12 :: v13 :: v14 :: v15 :: v16 :: v17 :: v18 :: .int .i64 k :: .slice (some ⟨gb, 0, none⟩) k k :: v21 :: v22 :: v23 :: v24 :: v25 :: v26 :: .slice (some ⟨w1.heap.size, 0, none⟩) k k :: .slice (some ⟨w1.heap.size + 1, 0, none⟩) k k :: .slice (some ⟨w1.heap.size + 2, 0, none⟩) k k :: .slice (some ⟨w1.heap.size + 3, 0, none⟩) k k :: .bool true :: .int .i64 0 :: .int .i64 0 :: v34 :: v35 :: v36 :: v37 :: v38 :: v39 :: v40 :: v41 :: v42 :: v43 :: v44 :: v45 :: v46 :: v47 :: v48 :: v49 :: v50 :: v51 :: v52 :: v53 :: v54 :: v55 :: v56 :: v57 :: v58 :: v59 :: v60 :: v61 :: v62 :: v63 :: v64 :: v65 :: v66 :: v67 :: v68 :: v69 :: v70 :: v71 :: v72 :: v73 :: v74 :: v75 :: v76 :: v77 :: v78 :: v79 :: v80 :: v81 :: v82 :: v83 :: v84 :: v85 :: v86 :: v87 :: v88 :: v89 :: v90 :: v91 :: v92 :: v93 :: v94 :: v95 :: v96 :: v97 :: v98 :: v99 :: v100 :: v101 :: v102 :: v103 :: v104 :: v105 :: v106 :: v107 :: v108 :: v109 :: v110 :: v111 :: v112 :: v113 :: v114 :: v115 :: v116 :: v117 :: v118 :: v119 :: v120 :: v121 :: v122 :: v123 :: v124 :: v125 :: v126 :: v127 :: v128 :: v129 :: v130 :: v131 :: v132 :: v133 :: v134 :: v135 :: v136 :: v137 :: v138 :: v139 :: v140 :: v141 :: v142 :: v143 :: v144 :: v145 :: v146 :: v147 :: v148 :: v149 :: v150 :: v151 :: v152 :: v153 :: v154 :: v155 :: v156 :: v157 :: v158 :: v159 :: v160 :: v161 :: v162 :: v163 :: v164 :: v165 :: v166 :: v167 :: v168 :: v169 :: v170 :: v171 :: v172 :: v173 :: v174 :: v175 :: v176 :: v177 :: v178 :: v179 :: v180 :: v181 :: v182 :: v183 :: v184 :: v185 :: v186 :: v187 :: v188 :: v189 :: v190 :: v191 :: v192 :: v193 :: v194 :: v195 :: v196 :: v197 :: v198 :: v199 :: v200 :: v201 :: v202 :: v203 :: v204 :: v205 :: v206 :: v207 :: v208 :: v209 :: v210 :: v211 :: v212 :: v213 :: v214 :: v215 :: v216 :: v217 :: v218 :: v219 :: v220 :: v221 :: v222 :: v223 :: v224 :: v225 :: v226 :: v227 :: v228 :: v229 :: v230 :: v231 :: v232 :: v233 :: v234 :: v235 :: v236 :: v237 :: v238 :: v239 :: v240 :: v241 :: v242 :: v243 :: v244 :: v245 :: v246 :: v247 :: v248 :: v249 :: v250 :: v251 :: v252 :: v253 :: v254 :: v255 :: v256 :: v257 :: v258 :: v259 :: v260 :: v261 :: v262 :: v263 :: v264 :: v265 :: v266 :: v267 :: v268 :: v269 :: v270 :: v271 :: v272 :: v273 :: v274 :: v275 :: v276 :: v277 :: v278 :: v279 :: v280 :: v281 :: v282 :: v283 :: v284 :: v285 :: v286 :: v287 :: v288 :: v289 :: v290 :: v291 :: v292 :: v293 :: v294 :: v295 :: v296 :: v297 :: v298 :: v299 :: v300 :: v301 :: v302 :: v303 :: v304 :: v305 :: v306 :: v307 :: v308 :: v309 :: v310 :: v311 :: v312 :: v313 :: v314 :: v315 :: v316 :: v317 :: v318 :: v319 :: v320 :: v321 :: v322 :: v323 :: v324 :: v325 :: v326 :: v327 :: v328 :: v329 :: v330 :: v331 :: v332 :: v333 :: v334 :: v335 :: v336 :: v337 :: v338 :: v339 :: v340 :: v341 :: v342 :: v343 :: v344 :: v345 :: v346 :: v347 :: v348 :: v349 :: v350 :: v351 :: v352 :: v353 :: v354 :: v355 :: v356 :: v357 :: v358 :: v359 :: v360 :: v361 :: v362 :: v363 :: v364 :: v365 :: v366 :: v367 :: v368 :: v369 :: v370 :: v371 :: v372 :: v373 :: v374 :: v375 :: v376 :: v377 :: v378 :: v379 :: v380 :: v381 :: v382 :: v383 :: v384 :: v385 :: v386 :: v387 :: v388 :: v389 :: v390 :: v391 :: v392 :: v393 :: v394 :: v395 :: v396 :: v397 :: v398 :: v399 :: v400 :: v401 :: v402 :: v403 :: v404 :: v405 :: v406 :: v407 :: v408 :: v409 :: v410 :: v411 :: v412 :: v413 :: v414 :: v415 :: v416 :: v417 :: v418 :: v419 :: v420 :: v421 :: v422 :: v423 :: v424 :: v425 :: v426 :: v427 :: v428 :: v429 :: v430 :: v431 :: v432 :: v433 :: v434 :: v435 :: v436 :: v437 :: v438 :: v439 :: v440 :: v441 :: v442 :: v443 :: v444 :: v445 :: v446 :: v447 :: v448 :: v449 :: v450 :: v451 :: v452 :: v453 :: v454 :: v455 :: v456 :: v457 :: v458 :: v459 :: v460 :: v461 :: v462 :: v463 :: v464 :: v465 :: v466 :: v467 :: v468 :: v469 :: v470 :: v471 :: []), []⟩ w0 := by
  have HEX := hide hexit
  clear hexit
  conv => arg 2; arg 1; whnf
  go_loopw [31, 32, 33] (fun av dv iv wr => ∃ j : Nat, j ≤ k ∧ iv = .int .i64 j ∧ av = .bool (adm C cn z8 j) ∧ dv = .int .i64 (del C cn j) ∧ Hid (RD C cn k w1.heap.size z8 j j j j w1 wr)) (fun _ _ i _ => k - (intOf i).toNat)
  case atStart => exact ⟨0, Nat.zero_le _, rfl, rfl, rfl, HS⟩
  case round =>
    obtain ⟨j, hj, rfl, rfl, rfl, HX⟩ := hrel
    by_cases hlt : j < k
    · have i1 : (j : Int) < (k : Int) := by omega
      obtain ⟨x3, rfl, -, m3⟩ := HR1.out.r3 j hlt
      obtain ⟨x4, rfl, -, m4⟩ := HR1.out.r4 j hlt
      obtain ⟨x5, rfl, -, m5⟩ := HR1.out.r5 j hlt
      obtain ⟨x6, rfl, -, m6⟩ := HR1.out.r6 j hlt
      obtain ⟨h0, hl0⟩ := E5.row2 HE.out hlt m3 m4 m5 m6 HX.out.below
      have H0 := hide h0
      have HL0 := hide hl0
      have HK := hide (HE.out.good j hlt)
      have EA : Hid (adm C cn z8 (j + 1) = (adm C cn z8 j && (C j).alw cn z8)) := rfl
      have ED : Hid (del C cn (j + 1) = max (del C cn j) ((C j).aft cn)) := rfl
      generalize adm C cn z8 j = a at *
      generalize del C cn j = dj at *
      clear m3 m4 m5 m6 h0 hl0
      obtain ⟨-, y4, y5, -⟩ := H0.out
      go_upto_region 41 with fail
      refine reg41 k c4 c5 j x4 x5 _ _ hlt hn wr y4 y5 _ _ _ _ _ _ _ _ _ _ _ _ _ _ _ _ _ _ _ _ _ _ _ _ _ _ _ _ _ _ _ _ _ _ _ _ _ _ _ _ _ _ _ _ _ _ _ _ _ _ _ _ _ _ _ _ _ _ _ _ _ _ _ _ _ _ _ _ _ _ _ _ _ _ _ _ _ _ _ _ _ _ _ _ _ _ _ _ _ _ _ _ _ _ _ _ _ _ _ _ _ _ _ _ _ _ _ _ _ _ _ _ _ _ _ _ _ _ _ _ _ _ _ _ _ _ _ _ _ _ _ _ _ _ _ _ _ _ _ _ _ _ _ _ _ _ _ _ _ _ _ _ _ _ _ _ _ _ _ _ _ _ _ _ _ _ _ _ _ _ _ _ _ _ _ _ _ _ _ _ _ _ _ _ _ _ _ _ _ _ _ _ _ _ _ _ _ _ _ _ _ _ _ _ _ _ _ _ _ _ _ _ _ _ _ _ _ _ _ _ _ _ _ _ _ _ _ _ _ _ _ _ _ _ _ _ _ _ _ _ _ _ _ _ _ _ _ _ _ _ _ _ _ _ _ _ _ _ _ _ _ _ _ _ _ _ _ _ _ _ _ _ _ _ _ _ _ _ _ _ _ _ _ _ _ _ _ _ _ _ _ _ _ _ _ _ _ _ _ _ _ _ _ _ _ _ _ _ _ _ _ _ _ _ _ _ _ _ _ _ _ _ _ _ _ _ _ _ _ _ _ _ _ _ _ _ _ _ _ _ _ _ _ _ _ _ _ _ _ _ _ _ _ _ _ _ _ _ _ _ _ _ _ _ _ _ _ _ _ _ _ _ _ _ _ _ _ _ _ _ _ _ _ _ _ _ _ _ _ _ _ _ _ _ _ _ _ _ _ _ _ _ _ _ _ _ _ _ _ _ _ _ _ _ _ _ _ _ _ _ _ _ _ _ _ _ _ _ _ _ _ _ _ _ _ _ _ _ _ _ _ _ _ _ _ _ _ _ _ _ _ _ _ _ _ _ _ _ _ _ _ _ _ _ _ _ _ _ _ _ _ ?_
      intro u200 u201 u202 u203 u204 u205 u206 u207 u208
      have H1 := hide (HA.box H0.out (.int .i64 (qv (C j).l (C j).A)) (.int .u64 (rv (C j).l (C j).A)) 38).drew
      have X1 := hide (HX.out.call (below1 wr (.cells #[.int .i64 (qv (C j).l (C j).A), .int .u64 (rv (C j).l (C j).A)] 38))).drew
      have rne : wr.heap.size ≠ w1.heap.size := by have := HX.out.size; omega
      have hL5 : Hid (∀ x ∈ ((⟨wr.heap.size, 0, none⟩, .int .i64 (qv (C j).l (C j).A)) :: (⟨wr.heap.size, 1, none⟩, .int .u64 (rv (C j).l (C j).A)) :: L2 (x3.add j) (x4.add j) (x5.add j) (x6.add j) gb j (C j).g (C j).qu (qv (C j).l (C j).A) (rv (C j).l (C j).A) (C j).late), x.1.block ≠ w1.heap.size) := by
        have h2 := HL0.out
        intro x hx
        rcases List.mem_cons.1 hx with rfl | hx
        · exact rne
        rcases List.mem_cons.1 hx with rfl | hx
        · exact rne
        · exact Nat.ne_of_lt (h2 x hx)
      have hgb : gb ≠ w1.heap.size := Nat.ne_of_lt (World.block_lt_of_cell? w1 _ (HE.out.ptr j hlt))
      clear y4 y5 H0 HX HL0
      generalize wr.heap.size = rb at *
      generalize (wr.alloc (.cells #[.int .i64 (qv (C j).l (C j).A), .int .u64 (rv (C j).l (C j).A)] 38)).drew = wc at *
      go_upto_region 42 with fail
      refine reg42 k cn gb rb w1.heap.size j (C j).l (C j).p (C j).b (C j).A (C j).g hlt hn (hide HK.out.fit) (hide HK.out.hA) w1 wc (hide (HE.out.gc j hlt)) (Nat.le_refl _) rne hgb (Nat.ne_of_lt (HE.out.gc j hlt).lt) (hide (X1.out.ready j hlt)) (hide ⟨H1.out.1, H1.out.2.1, H1.out.2.2.2.2.2.2.1, HA.below H1.out⟩) _ _ _ _ _ _ _ _ _ _ _ _ _ _ _ _ _ _ _ _ _ _ _ _ _ _ _ _ _ _ _ _ _ _ _ _ _ _ _ _ _ _ _ _ _ _ _ _ _ _ _ _ _ _ _ _ _ _ _ _ _ _ _ _ _ _ _ _ _ _ _ _ _ _ _ _ _ _ _ _ _ _ _ _ _ _ _ _ _ _ _ _ _ _ _ _ _ _ _ _ _ _ _ _ _ _ _ _ _ _ _ _ _ _ _ _ _ _ _ _ _ _ _ _ _ _ _ _ _ _ _ _ _ _ _ _ _ _ _ _ _ _ _ _ _ _ _ _ _ _ _ _ _ _ _ _ _ _ _ _ _ _ _ _ _ _ _ _ _ _ _ _ _ _ _ _ _ _ _ _ _ _ _ _ _ _ _ _ _ _ _ _ _ _ _ _ _ _ _ _ _ _ _ _ _ _ _ _ _ _ _ _ _ _ _ _ _ _ _ _ _ _ _ _ _ _ _ _ _ _ _ _ _ _ _ _ _ _ _ _ _ _ _ _ _ _ _ _ _ _ _ _ _ _ _ _ _ _ _ _ _ _ _ _ _ _ _ _ _ _ _ _ _ _ _ _ _ _ _ _ _ _ _ _ _ _ _ _ _ _ _ _ _ _ _ _ _ _ _ _ _ _ _ _ _ _ _ _ _ _ _ _ _ _ _ _ _ _ _ _ _ _ _ _ _ _ _ _ _ _ _ _ _ _ _ _ _ _ _ _ _ _ _ _ _ _ _ _ _ _ _ _ _ _ _ _ _ _ _ _ _ _ _ _ _ _ _ _ _ _ _ _ _ _ _ _ _ _ _ _ _ _ _ _ _ _ _ _ _ _ _ _ _ _ _ _ _ _ _ _ _ _ _ _ _ _ _ _ _ _ _ _ _ _ _ _ _ _ _ _ _ _ _ _ _ _ _ _ _ _ _ _ _ _ _ _ _ _ _ _ _ _ _ _ _ _ _ _ _ _ _ _ _ _ _ _ _ _ _ _ _ _ _ _ _ _ _ _ _ ?_
      intro w5 u209 u210 u211 u212 u213 u214 u215 u216 u217 u218 hw5 hd5
      have H5 := hide (H1.out.drew.wr hL5.out (Nat.le_refl _) hw5.out)
      have X5 := hide (X1.out.drew.dec hw5.out hd5.out)
      clear H1 X1 hw5 hd5 hL5 rne hgb
      obtain ⟨al, rt, ct, c0, c3, c4, k1, k2⟩ := dec2 (X5.out.ds j (Nat.lt_succ_self j))
      have KQ := hide k1
      have KN := hide k2
      obtain ⟨-, -, t3, -, -, t6, tg, -⟩ := H5.out
      have G5 := hide ((HE.out.gc j hlt).later X5.out.below)
      have lb := And.intro HK.out.l0 HK.out.l1
      have wb := Chk.wt_b HK.out
      have qb := qv_le HK.out.fit.tol HK.out.fit.l0
      clear k1 k2
      generalize (C j).qu = qu at *
      generalize ho : (C j).ok cn = o at *
      generalize hwt : (C j).wt cn = wt at *
      have HO := hide ho
      have HWT := hide hwt
      clear ho hwt
      go_upto_if 227 with fail
      go_cut [35, 36] from 195 to 290 (fun ov wv wx => ov = .bool o ∧ wv = .int .i64 wt ∧ w5 = wx)
      case first =>
        cases qu
        · go_wp2_with fail
          go_meet
          exact ⟨by rw [(KN.out (by trivial)).1], by rw [(KN.out (by trivial)).2], rfl⟩
        · go_wp2_with fail
          go_meet
          exact ⟨by rw [(KQ.out (by trivial)).1], by rw [(KQ.out (by trivial)).2], rfl⟩
      case rest =>
        obtain ⟨rfl, rfl, rfl⟩ := hcut
        clear c0 c3 c4 KQ KN t3
        obtain ⟨lb0, lb1⟩ := lb
        obtain ⟨wb0, wb1⟩ := wb
        generalize hlv : (C j).late = lv at *
        generalize haf : (C j).aft cn = af at *
        have HAF := hide haf
        have AY : Hid (lv ≤ 9223372036854775807 - wt → af = wt + lv) := fun h => by rw [← HAF.out, ← HWT.out, ← hlv]; exact Chk.aft_yes (by rw [HWT.out, hlv]; exact h)
        have AN : Hid (¬ lv ≤ 9223372036854775807 - wt → af = 9223372036854775807) := fun h => by rw [← HAF.out]; exact Chk.aft_no (by rw [HWT.out, hlv]; exact h)
        clear haf hlv
        go_upto_if 245 with fail
        go_cut [37] from 195 to 290 (fun av wx => av = .int .i64 af ∧ w5 = wx)
        case first =>
          by_cases hl : lv ≤ 9223372036854775807 - wt
          · go_wp2_with fail
            go_meet
            exact ⟨by rw [AY.out hl], rfl⟩
          · go_wp2_with fail
            go_meet
            exact ⟨by rw [AN.out hl], rfl⟩
        case rest =>
          obtain ⟨rfl, rfl⟩ := hcut
          clear AY AN t6
          go_upto_if 261 with (go_at_call 16; refine (farthest_any (C j).g (C j).l (C j).p (C j).b qb _ G5.out).mono ?_; rintro e w6 ⟨rfl, rfl⟩)
          have FV : Hid (farv (C j).l (C j).p (C j).b = 9223372036854775807 - qv (C j).l ((C j).b * (C j).p) - 2) := rfl
          have EX : Hid ((C j).alw cn z8 = (o && decide (af ≤ min z8 (farv (C j).l (C j).p (C j).b)))) := by
            unfold Hid Chk.alw inB
            rw [HO.out, HAF.out]
          generalize farv (C j).l (C j).p (C j).b = far at *
          have fb : Hid (far = 9223372036854775807 - qv (C j).l ((C j).b * (C j).p) - 2) := FV.out
          generalize 9223372036854775807 - qv (C j).l ((C j).b * (C j).p) - 2 = far2 at *
          obtain rfl : far = far2 := fb.out
          clear FV fb qb
          go_cut [38] from 195 to 290 (fun bv wx => bv = .int .i64 (min z8 far) ∧ w5 = wx)
          case first =>
            by_cases hf : far < z8
            · go_wp2_with fail
              go_meet
              exact ⟨by rw [show min z8 far = far by omega], rfl⟩
            · go_wp2_with fail
              go_meet
              exact ⟨by rw [show min z8 far = z8 by omega], rfl⟩
          case rest =>
            obtain ⟨rfl, rfl⟩ := hcut
            generalize min z8 far = mn at *
            obtain ⟨v1, e1⟩ := Option.isSome_iff_exists.mp (X5.out.t1 j hlt)
            have f1 := X5.out.f1
            go_upto_region 56 with fail
            have X6 := hide (X5.out.put1 hlt o HO.out)
            clear e1 f1 X5 tg H5
            generalize w5.setCell ⟨w1.heap.size + 1, j, none⟩ (.bool o) = w6 at *
            obtain ⟨v2, e2⟩ := Option.isSome_iff_exists.mp (X6.out.t2 j hlt)
            have f2 := X6.out.f2
            go_cut [] from 195 to 290 (fun wx => ∃ x, Hid ((C j).alw cn z8 = x ∧ RD C cn k w1.heap.size z8 (j + 1) (j + 1) (j + 1) j w1 wx))
            case first =>
              cases o
              · go_wp2_with fail
                go_meet
                exact ⟨false, by rw [EX.out]; rfl, X6.out.put2 hlt false (by rw [EX.out]; rfl)⟩
              · by_cases hle : af ≤ mn
                · go_wp2_with fail
                  go_meet
                  exact ⟨true, by rw [EX.out]; simp [hle], X6.out.put2 hlt true (by rw [EX.out]; simp [hle])⟩
                · go_wp2_with fail
                  go_meet
                  exact ⟨false, by rw [EX.out]; simp [hle], X6.out.put2 hlt false (by rw [EX.out]; simp [hle])⟩
            case rest =>
              obtain ⟨x, HZ⟩ := hcut
              have EXX := hide HZ.out.1
              have X7 := hide HZ.out.2
              clear HZ X6 e2 f2 EX
              obtain ⟨v3, e3⟩ := Option.isSome_iff_exists.mp (X7.out.t3 j hlt)
              have f3 := X7.out.f3
              go_upto_region 58 with fail
              have X8 := hide (X7.out.put3 hlt af HAF.out)
              clear e3 f3 X7
              generalize wc.setCell ⟨w1.heap.size + 3, j, none⟩ (.int .i64 af) = w8 at *
              have e8 := (X8.out.als j (Nat.lt_succ_self j)).trans (show some (Value.bool ((C j).alw cn z8)) = some (.bool x) by rw [EXX.out])
              go_cut [31] from 195 to 290 (fun av wx => av = .bool (a && x) ∧ w8 = wx)
              case first =>
                cases a
                · go_wp2_with fail
                  go_meet
                  exact ⟨rfl, rfl⟩
                · go_wp2_with fail
                  go_meet
                  exact ⟨rfl, rfl⟩
              case rest =>
                obtain ⟨rfl, rfl⟩ := hcut
                clear e8
                have EAX : Hid (adm C cn z8 (j + 1) = (a && x)) := by unfold Hid; rw [EA.out, EXX.out]
                generalize (a && x) = ax at *
                by_cases hgt : af > dj
                · go_wp2_with fail
                  go_roundw
                  case rel => exact ⟨j + 1, by omega, by go_num, by rw [EAX.out], by rw [ED.out]; congr 1; omega, X8⟩
                  case measure => simp [intOf]; omega
                · go_wp2_with fail
                  go_roundw
                  case rel => exact ⟨j + 1, by omega, by go_num, by rw [EAX.out], by rw [ED.out]; congr 1; omega, X8⟩
                  case measure => simp [intOf]; omega
    · have i1 : ¬ (j : Int) < (k : Int) := by omega
      have e : j = k := by omega
      subst e
      go_wp2_with fail
      exact HEX.out _ _ _ _ _ _ _ _ _ _ _ _ _ _ _ _ _ _ _ _ _ _ _ _ _ _ _ _ _ _ _ _ _ _ _ _ _ _ _ _ _ _ _ _ _ _ _ _ _ _ _ _ _ _ _ _ _ _ _ _ _ _ _ _ _ _ _ _ _ _ _ _ _ _ _ _ _ _ _ _ _ _ _ _ _ _ _ _ _ _ _ _ _ _ _ _ _ _ _ _ _ _ _ HX
end Go.Proofs.Qxb6612665a.W
