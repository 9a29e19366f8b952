import Derived.Test.Qxb6612665aFiveE0
import Derived.BigQuiet
namespace Go.Proofs.Qxb6612665a.W
open Go.RowKit
set_option linter.unusedVariables false

set_option maxRecDepth 1000000 in
set_option maxHeartbeats 4000000 in
theorem r3t (a1 a3 : Option Addr) (x0 x2 x4 x5 x6 : Addr) (k c0 c1 c2 c3 c4 c5 c6 cn gb d1 n1 j l p b A g V : Nat) (z8 lv dl : Int) (hlt : j < k) (hn : k ≤ 8192) (F : Hid (Fit l p b cn)) (hA : cv l A ≤ 9223372036854775807) (hXc : cv l (V + cn * p) ≤ 9223372036854775807) (lv0 : 0 ≤ lv) (lv1 : lv ≤ 9223372036854775807) (dl0 : 0 ≤ dl) (dl1 : dl ≤ 9223372036854775807) (hV : Hid ((cv l A < dl - lv → qv l V = dl - lv ∧ rv l V = 0) ∧ (dl - lv ≤ cv l A → V = A))) (w2 wr : World) (HG : Hid (GC g l p b w2)) (H0 : Hid (HA w2 (L3t (x0.add j) (x2.add j) (x4.add j) (x5.add j) (x6.add j) gb d1 n1 j l p b A g (V + cn * p) lv) wr)) (Q0 : Exit → Act → World → Prop) (R : Act → World → Prop) (v9 v10 v11 v12 v13 v14 v15 v16 v17 v18 v21 v22 v25 v26 v27 v28 v29 v30 v33 v34 v35 v36 v37 v38 v39 v41 v42 v43 v44 v45 v46 v47 v48 v49 v50 v51 v52 v53 v54 v55 v56 v57 v58 v59 v60 v61 v62 v63 v64 v65 v66 v67 v68 v69 v70 v71 v72 v73 v74 v75 v76 v77 v78 v79 v80 v81 v82 v83 v84 v85 v86 v87 v88 v89 v90 v91 v92 v93 v94 v95 v96 v97 v98 v99 v100 v101 v102 v103 v104 v105 v106 v107 v108 v109 v110 v111 v112 v113 v114 v115 v116 v117 v118 v119 v120 v121 v122 v123 v124 v125 v126 v127 v128 v129 v130 v131 v132 v133 v134 v135 v136 v137 v138 v139 v140 v141 v142 v143 v144 v145 v146 v147 v148 v149 v150 v151 v152 v153 v154 v155 v156 v157 v158 v159 v160 v161 v162 v163 v164 v165 v166 v167 v168 v169 v170 v171 v172 v173 v174 v175 v176 v177 v178 v179 v180 v181 v182 v183 v184 v185 v186 v187 v188 v189 v190 v191 v192 v193 v194 v195 v196 v197 v198 v199 v200 v201 v202 v203 v204 v205 v206 v207 v208 v209 v210 v211 v212 v213 v214 v215 v216 v217 v218 v219 v220 v221 v222 v223 v224 v225 v226 v227 v228 v229 v230 v231 v232 v233 v234 v235 v236 v237 v238 v239 v240 v241 v242 v243 v244 v245 v246 v247 v248 v249 v250 v251 v252 v253 v254 v255 v256 v257 v258 v259 v260 v261 v262 v263 v264 v265 v266 v267 v268 v269 v270 v271 v272 v273 v274 v275 v276 v277 v278 v279 v280 v281 v282 v283 v284 v285 v286 v287 v288 v289 v290 v291 v292 v293 v294 v295 v296 v297 v298 v299 v300 v301 v302 v303 v304 v305 v306 v307 v308 v309 v310 v311 v312 v313 v314 v315 v316 v317 v318 v319 v320 v321 v322 v323 v324 v325 v326 v327 v328 v329 v330 v331 v332 v333 v334 v335 v336 v337 v338 v339 v340 v341 v342 v343 v344 v345 v346 v347 v348 v349 v350 v351 v352 v353 v354 v355 v356 v357 v358 v359 v360 v361 v362 v363 v364 v365 v366 v367 v368 v369 v370 v371 v372 v373 v374 v375 v376 v377 v378 v379 v380 v381 v382 v383 v384 v385 v386 v387 v388 v389 v390 v391 v392 v393 v394 v395 v396 v397 v398 v399 v400 v401 v402 v403 v404 v405 v406 v407 v408 v409 v410 v411 v412 v413 v414 v415 v416 v417 v418 v419 v420 v421 v422 v423 v424 v425 v426 v427 v428 v429 v430 v431 v432 v433 v434 v435 v436 v437 v438 v439 v440 v441 v442 v443 v444 v445 v446 v447 v448 v449 v450 v451 v452 v453 v454 v455 v456 v457 v458 v459 v460 v461 v462 v463 v464 v465 v466 v467 v468 v469 v470 v471 : Value)
    (hR : ∀ (wr' : World) (u18 u41 u42 u43 u44 u45 u46 u301 u302 u303 u304 u305 u306 u307 u308 u309 u310 u311 u312 u313 u314 u315 u316 u317 u318 u319 u320 u321 u322 u323 u324 u325 u326 u327 u328 u329 u330 u331 u332 u333 u334 u335 u336 u337 u338 u339 u340 u341 u342 u343 u344 u345 u346 u347 u348 u349 u350 u351 u352 u353 u354 u355 u356 u357 u358 u359 u360 u361 u362 u363 u364 u365 u366 u367 u368 u369 u370 u371 u372 u373 u374 u375 u376 u377 u378 u379 u380 u381 u382 u383 u384 u385 u386 u387 u388 u389 u390 u391 u392 u393 u394 u395 u396 u397 u398 u399 u400 u401 u402 u403 u404 u405 u406 u407 u408 u409 u410 u411 u412 u413 u414 u415 u416 u417 u418 u419 u420 u421 u422 u423 u424 u425 u426 u427 u428 u429 u430 u431 u432 u433 u434 u435 u436 u437 u438 u439 u440 u441 u442 u443 u444 u445 u446 u447 u448 u449 u450 u451 u452 u453 u454 u455 u456 u457 u458 u459 u460 u461 u462 u463 u464 u465 u466 u467 u468 u469 u470 u471 : Value), Hid (Below w2.heap.size w2 wr') → R ⟨List.toArray (α := Value) (.slice (some x0) k c0 :: .slice a1 k c1 :: .slice (some x2) k c2 :: .slice a3 k c3 :: .slice (some x4) k c4 :: .slice (some x5) k c5 :: .slice (some x6) k c6 :: .int .i64 cn :: .int .i64 z8 :: v9 :: v10 :: v11 :: v12 :: v13 :: v14 :: v15 :: v16 :: v17 :: u18 :: .int .i64 k :: .slice (some ⟨gb, 0, none⟩) k k :: v21 :: v22 :: .slice (some ⟨d1, 0, none⟩) k k :: .slice (some ⟨n1, 0, none⟩) k k :: v25 :: v26 :: v27 :: v28 :: v29 :: v30 :: .bool true :: .int .i64 dl :: v33 :: v34 :: v35 :: v36 :: v37 :: v38 :: v39 :: .int .i64 ((j : Int) + 1) :: u41 :: u42 :: u43 :: u44 :: u45 :: u46 :: v47 :: v48 :: v49 :: v50 :: v51 :: v52 :: v53 :: v54 :: v55 :: v56 :: v57 :: v58 :: v59 :: v60 :: v61 :: v62 :: v63 :: v64 :: v65 :: v66 :: v67 :: v68 :: v69 :: v70 :: v71 :: v72 :: v73 :: v74 :: v75 :: v76 :: v77 :: v78 :: v79 :: v80 :: v81 :: v82 :: v83 :: v84 :: v85 :: v86 :: v87 :: v88 :: v89 :: v90 :: v91 :: v92 :: v93 :: v94 :: v95 :: v96 :: v97 :: v98 :: v99 :: v100 :: v101 :: v102 :: v103 :: v104 :: v105 :: v106 :: v107 :: v108 :: v109 :: v110 :: v111 :: v112 :: v113 :: v114 :: v115 :: v116 :: v117 :: v118 :: v119 :: v120 :: v121 :: v122 :: v123 :: v124 :: v125 :: v126 :: v127 :: v128 :: v129 :: v130 :: v131 :: v132 :: v133 :: v134 :: v135 :: v136 :: v137 :: v138 :: v139 :: v140 :: v141 :: v142 :: v143 :: v144 :: v145 :: v146 :: v147 :: v148 :: v149 :: v150 :: v151 :: v152 :: v153 :: v154 :: v155 :: v156 :: v157 :: v158 :: v159 :: v160 :: v161 :: v162 :: v163 :: v164 :: v165 :: v166 :: v167 :: v168 :: v169 :: v170 :: v171 :: v172 :: v173 :: v174 :: v175 :: v176 :: v177 :: v178 :: v179 :: v180 :: v181 :: v182 :: v183 :: v184 :: v185 :: v186 :: v187 :: v188 :: v189 :: v190 :: v191 :: v192 :: v193 :: v194 :: v195 :: v196 :: v197 :: v198 :: v199 :: v200 :: v201 :: v202 :: v203 :: v204 :: v205 :: v206 :: v207 :: v208 :: v209 :: v210 :: v211 :: v212 :: v213 :: v214 :: v215 :: v216 :: v217 :: v218 :: v219 :: v220 :: v221 :: v222 :: v223 :: v224 :: v225 :: v226 :: v227 :: v228 :: v229 :: v230 :: v231 :: v232 :: v233 :: v234 :: v235 :: v236 :: v237 :: v238 :: v239 :: v240 :: v241 :: v242 :: v243 :: v244 :: v245 :: v246 :: v247 :: v248 :: v249 :: v250 :: v251 :: v252 :: v253 :: v254 :: v255 :: v256 :: v257 :: v258 :: v259 :: v260 :: v261 :: v262 :: v263 :: v264 :: v265 :: v266 :: v267 :: v268 :: v269 :: v270 :: v271 :: v272 :: v273 :: v274 :: v275 :: v276 :: v277 :: v278 :: v279 :: v280 :: v281 :: v282 :: v283 :: v284 :: v285 :: v286 :: v287 :: v288 :: v289 :: v290 :: v291 :: v292 :: v293 :: v294 :: v295 :: v296 :: v297 :: v298 :: v299 :: v300 :: u301 :: u302 :: u303 :: u304 :: u305 :: u306 :: u307 :: u308 :: u309 :: u310 :: u311 :: u312 :: u313 :: u314 :: u315 :: u316 :: u317 :: u318 :: u319 :: u320 :: u321 :: u322 :: u323 :: u324 :: u325 :: u326 :: u327 :: u328 :: u329 :: u330 :: u331 :: u332 :: u333 :: u334 :: u335 :: u336 :: u337 :: u338 :: u339 :: u340 :: u341 :: u342 :: u343 :: u344 :: u345 :: u346 :: u347 :: u348 :: u349 :: u350 :: u351 :: u352 :: u353 :: u354 :: u355 :: u356 :: u357 :: u358 :: u359 :: u360 :: u361 :: u362 :: u363 :: u364 :: u365 :: u366 :: u367 :: u368 :: u369 :: u370 :: u371 :: u372 :: u373 :: u374 :: u375 :: u376 :: u377 :: u378 :: u379 :: u380 :: u381 :: u382 :: u383 :: u384 :: u385 :: u386 :: u387 :: u388 :: u389 :: u390 :: u391 :: u392 :: u393 :: u394 :: u395 :: u396 :: u397 :: u398 :: u399 :: u400 :: u401 :: u402 :: u403 :: u404 :: u405 :: u406 :: u407 :: u408 :: u409 :: u410 :: u411 :: u412 :: u413 :: u414 :: u415 :: u416 :: u417 :: u418 :: u419 :: u420 :: u421 :: u422 :: u423 :: u424 :: u425 :: u426 :: u427 :: u428 :: u429 :: u430 :: u431 :: u432 :: u433 :: u434 :: u435 :: u436 :: u437 :: u438 :: u439 :: u440 :: u441 :: u442 :: u443 :: u444 :: u445 :: u446 :: u447 :: u448 :: u449 :: u450 :: u451 :: u452 :: u453 :: u454 :: u455 :: u456 :: u457 :: u458 :: u459 :: u460 :: u461 :: u462 :: u463 :: u464 :: u465 :: u466 :: u467 :: u468 :: u469 :: u470 :: u471 :: []), []⟩ wr') :
    Code.wp Try.prog (body5 2) (Exit.then R Q0) ⟨List.toArray (α := Value) (.slice (some x0) k c0 :: .slice a1 k c1 :: .slice (some x2) k c2 :: .slice a3 k c3 :: .slice (some x4) k c4 :: .slice (some x5) k c5 :: .slice (some x6) k c6 :: .int .i64 cn :: .int .i64 z8 :: v9 :: v10 :: v11 :: v12 :: v13 :: v14 :: v15 :: v16 :: v17 :: v18 :: .int .i64 k :: .slice (some ⟨gb, 0, none⟩) k k :: v21 :: v22 :: .slice (some ⟨d1, 0, none⟩) k k :: .slice (some ⟨n1, 0, none⟩) k k :: v25 :: v26 :: v27 :: v28 :: v29 :: v30 :: .bool true :: .int .i64 dl :: v33 :: v34 :: v35 :: v36 :: v37 :: v38 :: v39 :: .int .i64 j :: v41 :: v42 :: v43 :: v44 :: v45 :: v46 :: v47 :: v48 :: v49 :: v50 :: v51 :: v52 :: v53 :: v54 :: v55 :: v56 :: v57 :: v58 :: v59 :: v60 :: v61 :: v62 :: v63 :: v64 :: v65 :: v66 :: v67 :: v68 :: v69 :: v70 :: v71 :: v72 :: v73 :: v74 :: v75 :: v76 :: v77 :: v78 :: v79 :: v80 :: v81 :: v82 :: v83 :: v84 :: v85 :: v86 :: v87 :: v88 :: v89 :: v90 :: v91 :: v92 :: v93 :: v94 :: v95 :: v96 :: v97 :: v98 :: v99 :: v100 :: v101 :: v102 :: v103 :: v104 :: v105 :: v106 :: v107 :: v108 :: v109 :: v110 :: v111 :: v112 :: v113 :: v114 :: v115 :: v116 :: v117 :: v118 :: v119 :: v120 :: v121 :: v122 :: v123 :: v124 :: v125 :: v126 :: v127 :: v128 :: v129 :: v130 :: v131 :: v132 :: v133 :: v134 :: v135 :: v136 :: v137 :: v138 :: v139 :: v140 :: v141 :: v142 :: v143 :: v144 :: v145 :: v146 :: v147 :: v148 :: v149 :: v150 :: v151 :: v152 :: v153 :: v154 :: v155 :: v156 :: v157 :: v158 :: v159 :: v160 :: v161 :: v162 :: v163 :: v164 :: v165 :: v166 :: v167 :: v168 :: v169 :: v170 :: v171 :: v172 :: v173 :: v174 :: v175 :: v176 :: v177 :: v178 :: v179 :: v180 :: v181 :: v182 :: v183 :: v184 :: v185 :: v186 :: v187 :: v188 :: v189 :: v190 :: v191 :: v192 :: v193 :: v194 :: v195 :: v196 :: v197 :: v198 :: v199 :: v200 :: v201 :: v202 :: v203 :: v204 :: v205 :: v206 :: v207 :: v208 :: v209 :: v210 :: v211 :: v212 :: v213 :: v214 :: v215 :: v216 :: v217 :: v218 :: v219 :: v220 :: v221 :: v222 :: v223 :: v224 :: v225 :: v226 :: v227 :: v228 :: v229 :: v230 :: v231 :: v232 :: v233 :: v234 :: v235 :: v236 :: v237 :: v238 :: v239 :: v240 :: v241 :: v242 :: v243 :: v244 :: v245 :: v246 :: v247 :: v248 :: v249 :: v250 :: v251 :: v252 :: v253 :: v254 :: v255 :: v256 :: v257 :: v258 :: v259 :: v260 :: v261 :: v262 :: v263 :: v264 :: v265 :: v266 :: v267 :: v268 :: v269 :: v270 :: v271 :: v272 :: v273 :: v274 :: v275 :: v276 :: v277 :: v278 :: v279 :: v280 :: v281 :: v282 :: v283 :: v284 :: v285 :: v286 :: v287 :: v288 :: v289 :: v290 :: v291 :: v292 :: v293 :: v294 :: v295 :: v296 :: v297 :: v298 :: v299 :: v300 :: v301 :: v302 :: v303 :: v304 :: v305 :: v306 :: v307 :: v308 :: v309 :: v310 :: v311 :: v312 :: v313 :: v314 :: v315 :: v316 :: v317 :: v318 :: v319 :: v320 :: v321 :: v322 :: v323 :: v324 :: v325 :: v326 :: v327 :: v328 :: v329 :: v330 :: v331 :: v332 :: v333 :: v334 :: v335 :: v336 :: v337 :: v338 :: v339 :: v340 :: v341 :: v342 :: v343 :: v344 :: v345 :: v346 :: v347 :: v348 :: v349 :: v350 :: v351 :: v352 :: v353 :: v354 :: v355 :: v356 :: v357 :: v358 :: v359 :: v360 :: v361 :: v362 :: v363 :: v364 :: v365 :: v366 :: v367 :: v368 :: v369 :: v370 :: v371 :: v372 :: v373 :: v374 :: v375 :: v376 :: v377 :: v378 :: v379 :: v380 :: v381 :: v382 :: v383 :: v384 :: v385 :: v386 :: v387 :: v388 :: v389 :: v390 :: v391 :: v392 :: v393 :: v394 :: v395 :: v396 :: v397 :: v398 :: v399 :: v400 :: v401 :: v402 :: v403 :: v404 :: v405 :: v406 :: v407 :: v408 :: v409 :: v410 :: v411 :: v412 :: v413 :: v414 :: v415 :: v416 :: v417 :: v418 :: v419 :: v420 :: v421 :: v422 :: v423 :: v424 :: v425 :: v426 :: v427 :: v428 :: v429 :: v430 :: v431 :: v432 :: v433 :: v434 :: v435 :: v436 :: v437 :: v438 :: v439 :: v440 :: v441 :: v442 :: v443 :: v444 :: v445 :: v446 :: v447 :: v448 :: v449 :: v450 :: v451 :: v452 :: v453 :: v454 :: v455 :: v456 :: v457 :: v458 :: v459 :: v460 :: v461 :: v462 :: v463 :: v464 :: v465 :: v466 :: v467 :: v468 :: v469 :: v470 :: v471 :: []), []⟩ wr := by
  have HRR := hide hR
  have HXc := hide hXc
  have HA' := hide hA
  have lg := HG.out.lt
  clear hR hXc hA
  have i1 : (j : Int) < (k : Int) := by omega
  conv => arg 2; whnf
  obtain ⟨-, -, y4, y5, -⟩ := H0.out
  go_upto_region 68 with fail
  refine reg68 k c4 c5 j x4 x5 _ _ hlt hn wr y4 y5 _ _ _ _ _ _ _ _ _ _ _ _ _ _ _ _ _ _ _ _ _ _ _ _ _ _ _ _ _ _ _ _ _ _ _ _ _ _ _ _ _ _ _ _ _ _ _ _ _ _ _ _ _ _ _ _ _ _ _ _ _ _ _ _ _ _ _ _ _ _ _ _ _ _ _ _ _ _ _ _ _ _ _ _ _ _ _ _ _ _ _ _ _ _ _ _ _ _ _ _ _ _ _ _ _ _ _ _ _ _ _ _ _ _ _ _ _ _ _ _ _ _ _ _ _ _ _ _ _ _ _ _ _ _ _ _ _ _ _ _ _ _ _ _ _ _ _ _ _ _ _ _ _ _ _ _ _ _ _ _ _ _ _ _ _ _ _ _ _ _ _ _ _ _ _ _ _ _ _ _ _ _ _ _ _ _ _ _ _ _ _ _ _ _ _ _ _ _ _ _ _ _ _ _ _ _ _ _ _ _ _ _ _ _ _ _ _ _ _ _ _ _ _ _ _ _ _ _ _ _ _ _ _ _ _ _ _ _ _ _ _ _ _ _ _ _ _ _ _ _ _ _ _ _ _ _ _ _ _ _ _ _ _ _ _ _ _ _ _ _ _ _ _ _ _ _ _ _ _ _ _ _ _ _ _ _ _ _ _ _ _ _ _ _ _ _ _ _ _ _ _ _ _ _ _ _ _ _ _ _ _ _ _ _ _ _ _ _ _ _ _ _ _ _ _ _ _ _ _ _ _ _ _ _ _ _ _ _ _ _ _ _ _ _ _ _ _ _ _ _ _ _ _ _ _ _ _ _ _ _ _ _ _ _ _ _ _ _ _ _ _ _ _ _ _ _ _ _ _ _ _ _ _ _ _ _ _ _ _ _ _ _ _ _ _ _ _ _ _ _ _ _ _ _ _ _ _ _ _ _ _ _ _ _ _ _ _ _ _ _ _ _ _ _ _ _ _ _ _ _ _ _ _ _ _ _ _ _ _ _ _ _ _ _ _ _ _ _ _ _ _ _ _ _ _ _ _ _ _ _ _ _ _ _ _ _ _ _ _ _ _ ?_
  intro u306 u307 u308 u309 u310 u311 u312 u313 u314
  have HY := hide (HA.box H0.out (.int .i64 (qv l A)) (.int .u64 (rv l A)) 38).drew
  clear H0 y4 y5
  generalize wr.heap.size = rb at *
  generalize (wr.alloc (.cells #[.int .i64 (qv l A), .int .u64 (rv l A)] 38)).drew = wc at *
  obtain ⟨-, -, -, t2, -, -, -, -, -, d1', -⟩ := HY.out
  go_upto_region 69 with fail
  go_quiet (fail)
  clear t2 d1'
  have H1 := hide (HY.out.drewN nq)
  generalize wc.drewN nq = w3 at *
  clear HY
  obtain ⟨t0, t1, -, -, -, -, t6, -⟩ := H1.out
  go_upto_region 74 with fail
  have H2 := hide (HA.box H1.out (.int .i64 (qv l A)) (.int .u64 (rv l A)) 38)
  have M2 := hide (fun (w5 : World) (hb5 : Below (w3.alloc (.cells #[.int .i64 (qv l A), .int .u64 (rv l A)] 38)).heap.size (w3.alloc (.cells #[.int .i64 (qv l A), .int .u64 (rv l A)] 38)) w5) => made_pair hb5)
  have hL2 := hide (HA.off H1.out)
  have hq2 : Hid (w2.heap.size ≤ w3.heap.size) := (HA.below H1.out).size
  clear t0 t1 t6 H1
  generalize w3.heap.size = r2 at *
  generalize w3.alloc (.cells #[.int .i64 (qv l A), .int .u64 (rv l A)] 38) = w4 at *
  obtain ⟨-, -, t0, t1, -⟩ := H2.out
  go_upto_if 337 with (go_at_call 17; refine (zzceil_any l A F.out.l0 HA'.out _).mono ?_; rintro e w5 ⟨rfl, hb5⟩)
  obtain ⟨e0, e1, fr, zr⟩ := M2.out w5 hb5
  have H3 := hide (H2.out.call hb5)
  clear t0 t1 H2 M2 hb5
  have H3' := hide (show HA w2 ((⟨r2, 0, none⟩, .int .i64 (qv l A)) :: (⟨r2, 1, none⟩, .int .u64 (rv l A)) :: L3t (x0.add j) (x2.add j) (x4.add j) (x5.add j) (x6.add j) gb d1 n1 j l p b A g (V + cn * p) lv) w5 from ⟨H3.out.1, H3.out.2.1, H3.out.2.2.2.2⟩)
  have hL3 : Hid (∀ x ∈ (L3t (x0.add j) (x2.add j) (x4.add j) (x5.add j) (x6.add j) gb d1 n1 j l p b A g (V + cn * p) lv), x.1.block ≠ r2) := fun x hx => hL2.out x (List.mem_cons_of_mem _ (List.mem_cons_of_mem _ hx))
  clear H3 hL2
  go_cut [] from 301 to 471 (fun wx => Hid (HA w2 ((⟨r2, 0, none⟩, .int .i64 (qv l V)) :: (⟨r2, 1, none⟩, .int .u64 (rv l V)) :: L3t (x0.add j) (x2.add j) (x4.add j) (x5.add j) (x6.add j) gb d1 n1 j l p b A g (V + cn * p) lv) wx))
  case first =>
    by_cases hc : cv l A < dl - lv
    · go_wp2_with fail
      go_meet
      have H4 := HA.set2 H3'.out hL3.out hq2.out (.int .i64 (dl - lv)) (.int .u64 0)
      rw [← (hV.out.1 hc).1, ← (hV.out.1 hc).2] at H4
      rw [← (hV.out.1 hc).1, ← (hV.out.1 hc).2]
      exact hide H4
    · have hv := hV.out.2 (by omega)
      subst hv
      go_wp2_with fail
      go_meet
      exact H3'
  case rest =>
    have H4 := hide hcut.out
    clear hcut H3' hL3 hq2 e0 e1 fr zr
    go_upto_region 76 with fail
    refine reg76 k c0 cn gb d1 n1 j l p b A g V r2 x0 x2 x4 x5 x6 lv hlt hn F HXc w2 wc HG H4 _ _ _ _ _ _ _ _ _ _ _ _ _ _ _ _ _ _ _ _ _ _ _ _ _ _ _ _ _ _ _ _ _ _ _ _ _ _ _ _ _ _ _ _ _ _ _ _ _ _ _ _ _ _ _ _ _ _ _ _ _ _ _ _ _ _ _ _ _ _ _ _ _ _ _ _ _ _ _ _ _ _ _ _ _ _ _ _ _ _ _ _ _ _ _ _ _ _ _ _ _ _ _ _ _ _ _ _ _ _ _ _ _ _ _ _ _ _ _ _ _ _ _ _ _ _ _ _ _ _ _ _ _ _ _ _ _ _ _ _ _ _ _ _ _ _ _ _ _ _ _ _ _ _ _ _ _ _ _ _ _ _ _ _ _ _ _ _ _ _ _ _ _ _ _ _ _ _ _ _ _ _ _ _ _ _ _ _ _ _ _ _ _ _ _ _ _ _ _ _ _ _ _ _ _ _ _ _ _ _ _ _ _ _ _ _ _ _ _ _ _ _ _ _ _ _ _ _ _ _ _ _ _ _ _ _ _ _ _ _ _ _ _ _ _ _ _ _ _ _ _ _ _ _ _ _ _ _ _ _ _ _ _ _ _ _ _ _ _ _ _ _ _ _ _ _ _ _ _ _ _ _ _ _ _ _ _ _ _ _ _ _ _ _ _ _ _ _ _ _ _ _ _ _ _ _ _ _ _ _ _ _ _ _ _ _ _ _ _ _ _ _ _ _ _ _ _ _ _ _ _ _ _ _ _ _ _ _ _ _ _ _ _ _ _ _ _ _ _ _ _ _ _ _ _ _ _ _ _ _ _ _ _ _ _ _ _ _ _ _ _ _ _ _ _ _ _ _ _ _ _ _ _ _ _ _ _ _ _ _ _ _ _ _ _ _ _ _ _ _ _ _ _ _ _ _ _ _ _ _ _ _ _ _ _ _ _ _ _ _ _ _ _ _ _ _ _ _ _ _ _ _ _ _ _ _ _ _ _ _ _ _ _ _ _ _ _ _ _ _ _ _ _ _ _ _ _ _ _ _ _ _ _ _ _ _ _ _ _ ?_
    intro r4 wc' u340 u341 u342 u343 u344 u345 u346 u347 u348 u349 u350 u351 HY
    clear H4
    obtain ⟨t0, t1, -, -, -, -, -, -, -, -, -, -, -, p0, p1, -⟩ := HY.out
    go_upto_region 77 with fail
    go_quiet (fail)
    clear t0 t1 p0 p1
    have H5 := hide (HY.out.drewN nq)
    generalize wc'.drewN nq = w6 at *
    clear HY
    go_upto_region 80 with fail
    have Z5 := hide (show Ready w6.heap.size 0 (w6.alloc (.cells #[.bool false, .int .i64 0, .int .i64 0, .int .i64 0, .int .i64 0] 49)) from fun i hi => by
      refine ⟨?_, World.frozen?_alloc_new w6 _ 49 _⟩
      rw [new_cell0 w6 #[.bool false, .int .i64 0, .int .i64 0, .int .i64 0, .int .i64 0] 49 (0 + i)]
      rw [Array.getElem?_eq_getElem (by simp; omega)]
      rfl)
    have H6 := hide (H5.out.alloc (.cells #[.bool false, .int .i64 0, .int .i64 0, .int .i64 0, .int .i64 0] 49))
    have hL6 := hide (HA.off H5.out)
    have hq6 : Hid (w2.heap.size ≤ w6.heap.size) := (HA.below H5.out).size
    have r4ne : r4 ≠ w6.heap.size := Nat.ne_of_lt (World.block_lt_of_cell? w6 ⟨r4, 0, none⟩ H5.out.1)
    have gbne : gb ≠ w6.heap.size := Nat.ne_of_lt (World.block_lt_of_cell? w6 ⟨gb, j, none⟩ H5.out.2.2.2.2.2.2.2.1)
    clear H5
    generalize w6.heap.size = db at *
    generalize w6.alloc (.cells #[.bool false, .int .i64 0, .int .i64 0, .int .i64 0, .int .i64 0] 49) = w7 at *
    refine reg80 k cn gb r4 db j l p b (V + cn * p) g hlt hn F HXc w2 w7 HG hq6.out r4ne gbne (Nat.ne_of_lt (Nat.lt_of_lt_of_le lg hq6.out)) Z5 (hide ⟨H6.out.1, H6.out.2.1, H6.out.2.2.2.2.2.2.2.1, HA.below H6.out⟩) _ _ _ _ _ _ _ _ _ _ _ _ _ _ _ _ _ _ _ _ _ _ _ _ _ _ _ _ _ _ _ _ _ _ _ _ _ _ _ _ _ _ _ _ _ _ _ _ _ _ _ _ _ _ _ _ _ _ _ _ _ _ _ _ _ _ _ _ _ _ _ _ _ _ _ _ _ _ _ _ _ _ _ _ _ _ _ _ _ _ _ _ _ _ _ _ _ _ _ _ _ _ _ _ _ _ _ _ _ _ _ _ _ _ _ _ _ _ _ _ _ _ _ _ _ _ _ _ _ _ _ _ _ _ _ _ _ _ _ _ _ _ _ _ _ _ _ _ _ _ _ _ _ _ _ _ _ _ _ _ _ _ _ _ _ _ _ _ _ _ _ _ _ _ _ _ _ _ _ _ _ _ _ _ _ _ _ _ _ _ _ _ _ _ _ _ _ _ _ _ _ _ _ _ _ _ _ _ _ _ _ _ _ _ _ _ _ _ _ _ _ _ _ _ _ _ _ _ _ _ _ _ _ _ _ _ _ _ _ _ _ _ _ _ _ _ _ _ _ _ _ _ _ _ _ _ _ _ _ _ _ _ _ _ _ _ _ _ _ _ _ _ _ _ _ _ _ _ _ _ _ _ _ _ _ _ _ _ _ _ _ _ _ _ _ _ _ _ _ _ _ _ _ _ _ _ _ _ _ _ _ _ _ _ _ _ _ _ _ _ _ _ _ _ _ _ _ _ _ _ _ _ _ _ _ _ _ _ _ _ _ _ _ _ _ _ _ _ _ _ _ _ _ _ _ _ _ _ _ _ _ _ _ _ _ _ _ _ _ _ _ _ _ _ _ _ _ _ _ _ _ _ _ _ _ _ _ _ _ _ _ _ _ _ _ _ _ _ _ _ _ _ _ _ _ _ _ _ _ _ _ _ _ _ _ _ _ _ _ _ _ _ _ _ _ _ _ _ _ _ _ _ _ _ _ _ _ _ _ _ _ _ _ _ _ _ _ _ _ _ _ _ _ _ _ _ _ _ _ _ _ _ _ _ _ _ _ _ _ ?_
    intro w8 u358 u359 u360 u361 u362 u363 u364 hw8 hd8'
    have H7 := hide (H6.out.drew.wr hL6.out hq6.out hw8.out)
    have hd8 := hd8'.out
    clear hd8' H6 hw8 Z5
    obtain ⟨-, -, -, -, -, -, -, -, p0, -, p2, p3, p4, -⟩ := H7.out
    have y2 := hd8.c2
    have y4 := hd8.c4
    clear hd8
    go_upto_region 81 with fail
    go_quiet (fail)
    have H8 := hide (HA.below (H7.out.drewN nq))
    clear H7 p0 p2 p3 p4 y2 y4
    generalize w8.drewN nq = w9 at *
    go_wp2_with fail
    exact HRR.out _ _ _ _ _ _ _ _ _ _ _ _ _ _ _ _ _ _ _ _ _ _ _ _ _ _ _ _ _ _ _ _ _ _ _ _ _ _ _ _ _ _ _ _ _ _ _ _ _ _ _ _ _ _ _ _ _ _ _ _ _ _ _ _ _ _ _ _ _ _ _ _ _ _ _ _ _ _ _ _ _ _ _ _ _ _ _ _ _ _ _ _ _ _ _ _ _ _ _ _ _ _ _ _ _ _ _ _ _ _ _ _ _ _ _ _ _ _ _ _ _ _ _ _ _ _ _ _ _ _ _ _ _ _ _ _ _ _ _ _ _ _ _ _ _ _ _ _ _ _ _ _ _ _ _ _ _ _ _ _ _ _ _ _ _ _ _ _ _ _ _ _ _ _ _ _ _ _ _ H8
end Go.Proofs.Qxb6612665a.W
