import Derived.Test.Qxb6612665aRow6
import Derived.BigQuiet
namespace Go.Proofs.Qxb6612665a.W
open Go.RowKit
set_option linter.unusedVariables false

/-- the loops of a text, in order -/
def loopsOf : Code → List Code
  | .loop c => [c]
  | .seq a b => loopsOf a ++ loopsOf b
  | .block _ c => loopsOf c
  | .scope c => loopsOf c
  | .cond _ a b => loopsOf a ++ loopsOf b
  | _ => []
/-- the body of the law's loop number i -/
noncomputable def body6 (i : Nat) : Code := ((Try.f6.body.map loopsOf).getD []).getD i .skip

set_option maxRecDepth 1000000 in
set_option maxHeartbeats 4000000 in
theorem law6_loop1 (D : Dat) (a0 a1 a2 a3 a4 a5 a6 : Option Addr) (n c0 c1 c2 c3 c4 c5 c6 cn : Nat) (lg : Int) (hn : n ≤ 8192) (w : World) (HR : Hid (Rows7 D a0 a1 a2 a3 a4 a5 a6 n w)) (HWF : Hid (Wfs D.L D.P D.B D.NS D.FR n)) (HF : Hid (∀ i, i < n → FitAt lg cn (D.L i) (D.P i) (D.B i) (D.NS i) (D.FR i))) (w0 : World) (HS : Hid (BL D (fun _ => 0) n w.heap.size 0 w w0)) (Q0 : Exit → Act → World → Prop) (v7 v8 v9 v10 v11 v12 v13 v14 v15 v16 v17 v18 v19 v20 v22 v23 v26 v27 v28 v29 v30 v31 v32 v33 v34 v35 v36 v37 v38 v39 v40 v41 v42 v43 v44 v45 v46 v47 v48 v49 v50 v51 v52 v53 v54 v55 v56 v57 v58 v59 v60 v61 v62 v63 v64 v65 v66 v67 v68 v69 v70 v71 v72 v73 v74 v75 v76 v77 v78 v79 v80 v81 v82 v83 v84 v85 v86 v87 v88 v89 v90 v91 v92 v93 v94 v95 v96 v97 v98 v99 v100 v101 v102 v103 v104 v105 v106 v107 v108 v109 v110 v111 v112 v113 v114 v115 v116 v117 v118 v119 v120 v121 v122 v123 v124 v125 v126 v127 v128 v129 v130 v131 v132 v133 v134 v135 v136 v137 v138 v139 v140 v141 v142 v143 v144 v145 v146 v147 v148 v149 v150 v151 v152 v153 v154 v155 v156 v157 v158 v159 v160 v161 v162 v163 v164 v165 v166 v167 v168 v169 v170 v171 v172 v173 v174 v175 v176 v177 v178 v179 v180 v181 v182 v183 v184 v185 v186 v187 v188 v189 v190 v191 v192 v193 v194 v195 v196 v197 v198 v199 v200 v201 v202 v203 v204 v205 v206 v207 v208 v209 v210 v211 v212 v213 v214 v215 v216 v217 v218 v219 v220 v221 v222 v223 v224 v225 v226 v227 v228 v229 v230 v231 v232 v233 v234 v235 v236 v237 v238 v239 v240 v241 v242 v243 v244 v245 v246 v247 v248 v249 v250 v251 v252 v253 v254 v255 v256 v257 v258 v259 v260 v261 v262 v263 v264 v265 v266 v267 v268 v269 v270 v271 v272 v273 v274 v275 v276 v277 v278 v279 v280 v281 v282 v283 v284 v285 v286 v287 v288 v289 v290 v291 v292 v293 v294 : Value)
    (hexit : ∀ (G : Nat → Nat) (wr : World) (u123 u124 u125 u126 u127 u128 u129 u130 u131 u132 u133 u134 u135 u136 u137 u138 u139 u140 u141 u142 u143 u144 u145 u146 u147 u148 u149 u150 u151 u152 u153 u154 u155 u156 u157 u158 u159 u160 u161 : Value), Hid (BL D G n w.heap.size n w wr) → Q0 (.exit 0) ⟨List.toArray (α := Value) (.slice a0 n c0 :: .slice a1 n c1 :: .slice a2 n c2 :: .slice a3 n c3 :: .slice a4 n c4 :: .slice a5 n c5 :: .slice a6 n c6 :: v7 :: v8 :: v9 :: v10 :: v11 :: v12 :: v13 :: v14 :: v15 :: v16 :: v17 :: v18 :: v19 :: v20 :: .int .i64 n :: v22 :: v23 :: .slice (some ⟨w.heap.size, 0, none⟩) n n :: .int .i64 n :: v26 :: v27 :: v28 :: v29 :: v30 :: v31 :: v32 :: v33 :: v34 :: v35 :: v36 :: v37 :: v38 :: v39 :: v40 :: v41 :: v42 :: v43 :: v44 :: v45 :: v46 :: v47 :: v48 :: v49 :: v50 :: v51 :: v52 :: v53 :: v54 :: v55 :: v56 :: v57 :: v58 :: v59 :: v60 :: v61 :: v62 :: v63 :: v64 :: v65 :: v66 :: v67 :: v68 :: v69 :: v70 :: v71 :: v72 :: v73 :: v74 :: v75 :: v76 :: v77 :: v78 :: v79 :: v80 :: v81 :: v82 :: v83 :: v84 :: v85 :: v86 :: v87 :: v88 :: v89 :: v90 :: v91 :: v92 :: v93 :: v94 :: v95 :: v96 :: v97 :: v98 :: v99 :: v100 :: v101 :: v102 :: v103 :: v104 :: v105 :: v106 :: v107 :: v108 :: v109 :: v110 :: v111 :: v112 :: v113 :: v114 :: v115 :: v116 :: v117 :: v118 :: v119 :: v120 :: v121 :: v122 :: u123 :: u124 :: u125 :: u126 :: u127 :: u128 :: u129 :: u130 :: u131 :: u132 :: u133 :: u134 :: u135 :: u136 :: u137 :: u138 :: u139 :: u140 :: u141 :: u142 :: u143 :: u144 :: u145 :: u146 :: u147 :: u148 :: u149 :: u150 :: u151 :: u152 :: u153 :: u154 :: u155 :: u156 :: u157 :: u158 :: u159 :: u160 :: u161 :: v162 :: v163 :: v164 :: v165 :: v166 :: v167 :: v168 :: v169 :: v170 :: v171 :: v172 :: v173 :: v174 :: v175 :: v176 :: v177 :: v178 :: v179 :: v180 :: v181 :: v182 :: v183 :: v184 :: v185 :: v186 :: v187 :: v188 :: v189 :: v190 :: v191 :: v192 :: v193 :: v194 :: v195 :: v196 :: v197 :: v198 :: v199 :: v200 :: v201 :: v202 :: v203 :: v204 :: v205 :: v206 :: v207 :: v208 :: v209 :: v210 :: v211 :: v212 :: v213 :: v214 :: v215 :: v216 :: v217 :: v218 :: v219 :: v220 :: v221 :: v222 :: v223 :: v224 :: v225 :: v226 :: v227 :: v228 :: v229 :: v230 :: v231 :: v232 :: v233 :: v234 :: v235 :: v236 :: v237 :: v238 :: v239 :: v240 :: v241 :: v242 :: v243 :: v244 :: v245 :: v246 :: v247 :: v248 :: v249 :: v250 :: v251 :: v252 :: v253 :: v254 :: v255 :: v256 :: v257 :: v258 :: v259 :: v260 :: v261 :: v262 :: v263 :: v264 :: v265 :: v266 :: v267 :: v268 :: v269 :: v270 :: v271 :: v272 :: v273 :: v274 :: v275 :: v276 :: v277 :: v278 :: v279 :: v280 :: v281 :: v282 :: v283 :: v284 :: v285 :: v286 :: v287 :: v288 :: v289 :: v290 :: v291 :: v292 :: v293 :: v294 :: []), []⟩ wr) :
    Code.wp Try.prog (Code.loop (body6 0)) Q0 ⟨List.toArray (α := Value) (.slice a0 n c0 :: .slice a1 n c1 :: .slice a2 n c2 :: .slice a3 n c3 :: .slice a4 n c4 :: .slice a5 n c5 :: .slice a6 n c6 :: v7 :: v8 :: v9 :: v10 :: v11 :: v12 :: v13 :: v14 :: v15 :: v16 :: v17 :: v18 :: v19 :: v20 :: .int .i64 n :: v22 :: v23 :: .slice (some ⟨w.heap.size, 0, none⟩) n n :: .int .i64 0 :: v26 :: v27 :: v28 :: v29 :: v30 :: v31 :: v32 :: v33 :: v34 :: v35 :: v36 :: v37 :: v38 :: v39 :: v40 :: v41 :: v42 :: v43 :: v44 :: v45 :: v46 :: v47 :: v48 :: v49 :: v50 :: v51 :: v52 :: v53 :: v54 :: v55 :: v56 :: v57 :: v58 :: v59 :: v60 :: v61 :: v62 :: v63 :: v64 :: v65 :: v66 :: v67 :: v68 :: v69 :: v70 :: v71 :: v72 :: v73 :: v74 :: v75 :: v76 :: v77 :: v78 :: v79 :: v80 :: v81 :: v82 :: v83 :: v84 :: v85 :: v86 :: v87 :: v88 :: v89 :: v90 :: v91 :: v92 :: v93 :: v94 :: v95 :: v96 :: v97 :: v98 :: v99 :: v100 :: v101 :: v102 :: v103 :: v104 :: v105 :: v106 :: v107 :: v108 :: v109 :: v110 :: v111 :: v112 :: v113 :: v114 :: v115 :: v116 :: v117 :: v118 :: v119 :: v120 :: v121 :: v122 :: v123 :: v124 :: v125 :: v126 :: v127 :: v128 :: v129 :: v130 :: v131 :: v132 :: v133 :: v134 :: v135 :: v136 :: v137 :: v138 :: v139 :: v140 :: v141 :: v142 :: v143 :: v144 :: v145 :: v146 :: v147 :: v148 :: v149 :: v150 :: v151 :: v152 :: v153 :: v154 :: v155 :: v156 :: v157 :: v158 :: v159 :: v160 :: v161 :: v162 :: v163 :: v164 :: v165 :: v166 :: v167 :: v168 :: v169 :: v170 :: v171 :: v172 :: v173 :: v174 :: v175 :: v176 :: v177 :: v178 :: v179 :: v180 :: v181 :: v182 :: v183 :: v184 :: v185 :: v186 :: v187 :: v188 :: v189 :: v190 :: v191 :: v192 :: v193 :: v194 :: v195 :: v196 :: v197 :: v198 :: v199 :: v200 :: v201 :: v202 :: v203 :: v204 :: v205 :: v206 :: v207 :: v208 :: v209 :: v210 :: v211 :: v212 :: v213 :: v214 :: v215 :: v216 :: v217 :: v218 :: v219 :: v220 :: v221 :: v222 :: v223 :: v224 :: v225 :: v226 :: v227 :: v228 :: v229 :: v230 :: v231 :: v232 :: v233 :: v234 :: v235 :: v236 :: v237 :: v238 :: v239 :: v240 :: v241 :: v242 :: v243 :: v244 :: v245 :: v246 :: v247 :: v248 :: v249 :: v250 :: v251 :: v252 :: v253 :: v254 :: v255 :: v256 :: v257 :: v258 :: v259 :: v260 :: v261 :: v262 :: v263 :: v264 :: v265 :: v266 :: v267 :: v268 :: v269 :: v270 :: v271 :: v272 :: v273 :: v274 :: v275 :: v276 :: v277 :: v278 :: v279 :: v280 :: v281 :: v282 :: v283 :: v284 :: v285 :: v286 :: v287 :: v288 :: v289 :: v290 :: v291 :: v292 :: v293 :: v294 :: []), []⟩ w0 := by
  have HEX := hide hexit
  clear hexit
  conv => arg 2; arg 1; whnf
  go_loopw [25] (fun iv wr => ∃ (k : Nat) (G : Nat → Nat), k ≤ n ∧ iv = .int .i64 k ∧ Hid (BL D G n w.heap.size k w wr)) (fun i _ => n - (intOf i).toNat)
  case atStart => exact ⟨0, fun _ => 0, Nat.zero_le _, rfl, HS⟩
  case round =>
    obtain ⟨k, G, hk, rfl, HB⟩ := hrel
    by_cases hlt : k < n
    · have i1 : (k : Int) < (n : Int) := by omega
      obtain ⟨x0, rfl, -, m0⟩ := HR.out.r0 k hlt
      obtain ⟨x1, rfl, -, m1⟩ := HR.out.r1 k hlt
      obtain ⟨x2, rfl, -, m2⟩ := HR.out.r2 k hlt
      obtain ⟨x3, rfl, -, m3⟩ := HR.out.r3 k hlt
      obtain ⟨x4, rfl, -, m4⟩ := HR.out.r4 k hlt
      obtain ⟨x5, rfl, -, m5⟩ := HR.out.r5 k hlt
      obtain ⟨x6, rfl, -, m6⟩ := HR.out.r6 k hlt
      have K0 := hide (S7.of HB.out.below HB.out.own m0 m1 m2 m3 m4 m5 m6)
      have hA := hide (show (x0.add k).block < w.heap.size ∧ (x1.add k).block < w.heap.size ∧ (x2.add k).block < w.heap.size ∧ (x3.add k).block < w.heap.size ∧ (x4.add k).block < w.heap.size ∧ (x5.add k).block < w.heap.size ∧ (x6.add k).block < w.heap.size from ⟨World.block_lt_of_cell? w _ m0, World.block_lt_of_cell? w _ m1, World.block_lt_of_cell? w _ m2, World.block_lt_of_cell? w _ m3, World.block_lt_of_cell? w _ m4, World.block_lt_of_cell? w _ m5, World.block_lt_of_cell? w _ m6⟩)
      have FA := hide (HF.out k hlt)
      have fr0 := hide (HWF.out.fr k hlt)
      have CA := hide (chk_A (D.NS k) (D.FR k) (D.L k) FA.out.l0 FA.out.ns0 fr0.out.1 FA.out.frl)
      have NL := hide (newgcraI (D.L k) (D.P k) (D.B k) FA.out.l0 (by have := FA.out.l1; omega) (by have := FA.out.p0; omega) (by have := FA.out.p1; omega) (by have := FA.out.cb; omega) (by have := FA.out.b1; omega) (Wfs.tol FA.out))
      clear m0 m1 m2 m3 m4 m5 m6
      go_upto_region 30 with fail
      go_region_held3 (fun w' => w'.cell? (x0.add k) = some (.int .u64 (D.L k)) ∧ w'.cell? (x1.add k) = some (.int .u64 (D.P k)) ∧ w'.cell? (x2.add k) = some (.int .i64 (D.B k)) ∧ w'.cell? (x3.add k) = some (.bool (D.Q k)) ∧ w'.cell? (x4.add k) = some (.int .i64 (D.NS k)) ∧ w'.cell? (x5.add k) = some (.int .u64 (D.FR k)) ∧ w'.cell? (x6.add k) = some (.int .u64 (D.LT k)) ∧ Below w.heap.size w w' ∧ Own w.heap.size w')
        (first | with_reducible exact K0.out.drew | with_reducible exact K1.out | with_reducible exact K1.out.put5 (Nat.le_refl _) hA.out _ _ _ _ _)
        ((go_at_call 13; refine (NL.out _).mono ?_; rintro e w1 ⟨rfl, hb1, hg1⟩; have K1 := hide (K0.out.drew.call hb1); have T1 := hide (HB.out.drew.call hb1); have GG1 := hide hg1; obtain ⟨v0, v1, v2, v3, v4, e0, e1, e2, e3, e4⟩ := T1.out.cells hlt; have fr := T1.out.own.2))
      have T2 := hide (BL.step T1.out GG1.out (by have := HB.out.own.1; show wr.heap.size ≠ w.heap.size; omega) CA.out.1 CA.out.2 e0 e1 e2 e3 e4)
      clear e0 e1 e2 e3 e4 fr
      go_wp2_with fail
      go_roundw
      case rel => exact ⟨k + 1, _, by omega, by go_num, T2⟩
      case measure => simp [intOf]; omega
    · have i1 : ¬ (k : Int) < (n : Int) := by omega
      have e : k = n := by omega
      subst e
      go_wp2_with fail
      exact HEX.out _ _ _ _ _ _ _ _ _ _ _ _ _ _ _ _ _ _ _ _ _ _ _ _ _ _ _ _ _ _ _ _ _ _ _ _ _ _ _ _ _ HB
end Go.Proofs.Qxb6612665a.W
