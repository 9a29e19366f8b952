import Derived.Test.Qxb6612665aSixB
import Derived.BigQuiet
namespace Go.Proofs.Qxb6612665a.W
open Go.RowKit
set_option linter.unusedVariables false

set_option maxRecDepth 1000000 in
set_option maxHeartbeats 4000000 in
theorem law6_loop2t (D : Dat) (C : Nat → Chk) (a0 a1 a2 a3 a4 a5 a6 : Option Addr) (k c0 c1 c2 c3 c4 c5 c6 cn s1 s2 tb : Nat) (lg s l dl : Int) (hn : k ≤ 8192) (w2 W' : World) (HCG : Hid (Set6 D C k cn tb lg W')) (DD1 : Hid (∀ i, i < k → (C i).Dec cn s true dl s1 (i * 5) w2)) (NN1 : Hid (∀ i, i < k → (C i).Nxt cn true dl (s1 + 1) (i * 2) w2)) (DD2 : Hid (∀ i, i < k → (C i).Dec cn l true dl s2 (i * 5) w2)) (NN2 : Hid (∀ i, i < k → (C i).Nxt cn true dl (s2 + 1) (i * 2) w2)) (HR2 : Hid (Rows7 D a0 a1 a2 a3 a4 a5 a6 k w2)) (Q0 : Exit → Act → World → Prop) (v7 v8 v9 v10 v11 v12 v13 v14 v15 v16 v17 v18 v19 v20 v22 v23 v24 v25 v28 v32 v35 v36 v37 v38 v39 v40 v41 v42 v43 v44 v45 v46 v47 v48 v49 v50 v51 v52 v53 v54 v55 v56 v57 v58 v59 v60 v61 v62 v63 v64 v65 v66 v67 v68 v69 v70 v71 v72 v73 v74 v75 v76 v77 v78 v79 v80 v81 v82 v83 v84 v85 v86 v87 v88 v89 v90 v91 v92 v93 v94 v95 v96 v97 v98 v99 v100 v101 v102 v103 v104 v105 v106 v107 v108 v109 v110 v111 v112 v113 v114 v115 v116 v117 v118 v119 v120 v121 v122 v123 v124 v125 v126 v127 v128 v129 v130 v131 v132 v133 v134 v135 v136 v137 v138 v139 v140 v141 v142 v143 v144 v145 v146 v147 v148 v149 v150 v151 v152 v153 v154 v155 v156 v157 v158 v159 v160 v161 v162 v163 v164 v165 v166 v167 v168 v169 v170 v171 v172 v173 v174 v175 v176 v177 v178 v179 v180 v181 v182 v183 v184 v185 v186 v187 v188 v189 v190 v191 v192 v193 v194 v195 v196 v197 v198 v199 v200 v201 v202 v203 v204 v205 v206 v207 v208 v209 v210 v211 v212 v213 v214 v215 v216 v217 v218 v219 v220 v221 v222 v223 v224 v225 v226 v227 v228 v229 v230 v231 v232 v233 v234 v235 v236 v237 v238 v239 v240 v241 v242 v243 v244 v245 v246 v247 v248 v249 v250 v251 v252 v253 v254 v255 v256 v257 v258 v259 v260 v261 v262 v263 v264 v265 v266 v267 v268 v269 v270 v271 v272 v273 v274 v275 v276 v277 v278 v279 v280 v281 v282 v283 v284 v285 v286 v287 v288 v289 v290 v291 v292 v293 v294 : Value)
    (hexit : ∀ (wr : World) (u20 u35 u208 u209 u210 u211 u212 u213 u214 u215 u216 u217 u218 u219 u220 u221 u222 u223 u224 u225 u226 u227 u228 u229 u230 u231 u232 u233 u234 u235 u236 u237 u238 u239 u240 u241 u242 u243 u244 u245 u246 u247 u248 u249 u250 u251 u252 u253 u254 u255 u256 u257 u258 u259 u260 u261 u262 u263 u264 u265 u266 u267 u268 u269 u270 u271 u272 u273 u274 u275 u276 u277 u278 u279 u280 u281 u282 u283 u284 u285 u286 u287 u288 u289 u290 u291 u292 u293 u294 : Value), Hid (Below w2.heap.size w2 wr) → Q0 (.exit 2) ⟨List.toArray (α := Value) (.slice a0 k c0 :: .slice a1 k c1 :: .slice a2 k c2 :: .slice a3 k c3 :: .slice a4 k c4 :: .slice a5 k c5 :: .slice a6 k c6 :: v7 :: v8 :: v9 :: v10 :: v11 :: v12 :: v13 :: v14 :: v15 :: v16 :: v17 :: v18 :: v19 :: u20 :: .int .i64 k :: v22 :: v23 :: v24 :: v25 :: .slice (some ⟨s1, 0, none⟩) k k :: .slice (some ⟨s1 + 1, 0, none⟩) k k :: v28 :: .bool true :: .slice (some ⟨s2, 0, none⟩) k k :: .slice (some ⟨s2 + 1, 0, none⟩) k k :: v32 :: .bool true :: .int .i64 k :: u35 :: v36 :: v37 :: v38 :: v39 :: v40 :: v41 :: v42 :: v43 :: v44 :: v45 :: v46 :: v47 :: v48 :: v49 :: v50 :: v51 :: v52 :: v53 :: v54 :: v55 :: v56 :: v57 :: v58 :: v59 :: v60 :: v61 :: v62 :: v63 :: v64 :: v65 :: v66 :: v67 :: v68 :: v69 :: v70 :: v71 :: v72 :: v73 :: v74 :: v75 :: v76 :: v77 :: v78 :: v79 :: v80 :: v81 :: v82 :: v83 :: v84 :: v85 :: v86 :: v87 :: v88 :: v89 :: v90 :: v91 :: v92 :: v93 :: v94 :: v95 :: v96 :: v97 :: v98 :: v99 :: v100 :: v101 :: v102 :: v103 :: v104 :: v105 :: v106 :: v107 :: v108 :: v109 :: v110 :: v111 :: v112 :: v113 :: v114 :: v115 :: v116 :: v117 :: v118 :: v119 :: v120 :: v121 :: v122 :: v123 :: v124 :: v125 :: v126 :: v127 :: v128 :: v129 :: v130 :: v131 :: v132 :: v133 :: v134 :: v135 :: v136 :: v137 :: v138 :: v139 :: v140 :: v141 :: v142 :: v143 :: v144 :: v145 :: v146 :: v147 :: v148 :: v149 :: v150 :: v151 :: v152 :: v153 :: v154 :: v155 :: v156 :: v157 :: v158 :: v159 :: v160 :: v161 :: v162 :: v163 :: v164 :: v165 :: v166 :: v167 :: v168 :: v169 :: v170 :: v171 :: v172 :: v173 :: v174 :: v175 :: v176 :: v177 :: v178 :: v179 :: v180 :: v181 :: v182 :: v183 :: v184 :: v185 :: v186 :: v187 :: v188 :: v189 :: v190 :: v191 :: v192 :: v193 :: v194 :: v195 :: v196 :: v197 :: v198 :: v199 :: v200 :: v201 :: v202 :: v203 :: v204 :: v205 :: v206 :: v207 :: u208 :: u209 :: u210 :: u211 :: u212 :: u213 :: u214 :: u215 :: u216 :: u217 :: u218 :: u219 :: u220 :: u221 :: u222 :: u223 :: u224 :: u225 :: u226 :: u227 :: u228 :: u229 :: u230 :: u231 :: u232 :: u233 :: u234 :: u235 :: u236 :: u237 :: u238 :: u239 :: u240 :: u241 :: u242 :: u243 :: u244 :: u245 :: u246 :: u247 :: u248 :: u249 :: u250 :: u251 :: u252 :: u253 :: u254 :: u255 :: u256 :: u257 :: u258 :: u259 :: u260 :: u261 :: u262 :: u263 :: u264 :: u265 :: u266 :: u267 :: u268 :: u269 :: u270 :: u271 :: u272 :: u273 :: u274 :: u275 :: u276 :: u277 :: u278 :: u279 :: u280 :: u281 :: u282 :: u283 :: u284 :: u285 :: u286 :: u287 :: u288 :: u289 :: u290 :: u291 :: u292 :: u293 :: u294 :: []), []⟩ wr) :
    Code.wp Try.prog (Code.loop (body6 1)) Q0 ⟨List.toArray (α := Value) (.slice a0 k c0 :: .slice a1 k c1 :: .slice a2 k c2 :: .slice a3 k c3 :: .slice a4 k c4 :: .slice a5 k c5 :: .slice a6 k c6 :: v7 :: v8 :: v9 :: v10 :: v11 :: v12 :: v13 :: v14 :: v15 :: v16 :: v17 :: v18 :: v19 :: v20 :: .int .i64 k :: v22 :: v23 :: v24 :: v25 :: .slice (some ⟨s1, 0, none⟩) k k :: .slice (some ⟨s1 + 1, 0, none⟩) k k :: v28 :: .bool true :: .slice (some ⟨s2, 0, none⟩) k k :: .slice (some ⟨s2 + 1, 0, none⟩) k k :: v32 :: .bool true :: .int .i64 0 :: v35 :: v36 :: v37 :: v38 :: v39 :: v40 :: v41 :: v42 :: v43 :: v44 :: v45 :: v46 :: v47 :: v48 :: v49 :: v50 :: v51 :: v52 :: v53 :: v54 :: v55 :: v56 :: v57 :: v58 :: v59 :: v60 :: v61 :: v62 :: v63 :: v64 :: v65 :: v66 :: v67 :: v68 :: v69 :: v70 :: v71 :: v72 :: v73 :: v74 :: v75 :: v76 :: v77 :: v78 :: v79 :: v80 :: v81 :: v82 :: v83 :: v84 :: v85 :: v86 :: v87 :: v88 :: v89 :: v90 :: v91 :: v92 :: v93 :: v94 :: v95 :: v96 :: v97 :: v98 :: v99 :: v100 :: v101 :: v102 :: v103 :: v104 :: v105 :: v106 :: v107 :: v108 :: v109 :: v110 :: v111 :: v112 :: v113 :: v114 :: v115 :: v116 :: v117 :: v118 :: v119 :: v120 :: v121 :: v122 :: v123 :: v124 :: v125 :: v126 :: v127 :: v128 :: v129 :: v130 :: v131 :: v132 :: v133 :: v134 :: v135 :: v136 :: v137 :: v138 :: v139 :: v140 :: v141 :: v142 :: v143 :: v144 :: v145 :: v146 :: v147 :: v148 :: v149 :: v150 :: v151 :: v152 :: v153 :: v154 :: v155 :: v156 :: v157 :: v158 :: v159 :: v160 :: v161 :: v162 :: v163 :: v164 :: v165 :: v166 :: v167 :: v168 :: v169 :: v170 :: v171 :: v172 :: v173 :: v174 :: v175 :: v176 :: v177 :: v178 :: v179 :: v180 :: v181 :: v182 :: v183 :: v184 :: v185 :: v186 :: v187 :: v188 :: v189 :: v190 :: v191 :: v192 :: v193 :: v194 :: v195 :: v196 :: v197 :: v198 :: v199 :: v200 :: v201 :: v202 :: v203 :: v204 :: v205 :: v206 :: v207 :: v208 :: v209 :: v210 :: v211 :: v212 :: v213 :: v214 :: v215 :: v216 :: v217 :: v218 :: v219 :: v220 :: v221 :: v222 :: v223 :: v224 :: v225 :: v226 :: v227 :: v228 :: v229 :: v230 :: v231 :: v232 :: v233 :: v234 :: v235 :: v236 :: v237 :: v238 :: v239 :: v240 :: v241 :: v242 :: v243 :: v244 :: v245 :: v246 :: v247 :: v248 :: v249 :: v250 :: v251 :: v252 :: v253 :: v254 :: v255 :: v256 :: v257 :: v258 :: v259 :: v260 :: v261 :: v262 :: v263 :: v264 :: v265 :: v266 :: v267 :: v268 :: v269 :: v270 :: v271 :: v272 :: v273 :: v274 :: v275 :: v276 :: v277 :: v278 :: v279 :: v280 :: v281 :: v282 :: v283 :: v284 :: v285 :: v286 :: v287 :: v288 :: v289 :: v290 :: v291 :: v292 :: v293 :: v294 :: []), []⟩ w2 := by
  have HEX := hide hexit
  have MO : Hid (true = true → true = true) := by unfold Hid; exact fun _ => rfl
  have RW := hide (fun (j : Nat) (hj : j < k) (A2 A4 A5 : Addr) (W : World) (m2 : w2.cell? A2 = some (.int .i64 (D.B j))) (m4 : w2.cell? A4 = some (.int .i64 (D.NS j))) (m5 : w2.cell? A5 = some (.int .u64 (D.FR j))) (hb : Below w2.heap.size w2 W) => row6 HCG.out hj MO.out (DD1.out j hj) (NN1.out j hj) (DD2.out j hj) (NN2.out j hj) m2 m4 m5 hb)
  clear hexit MO DD1 NN1 DD2 NN2 HCG
  conv => arg 2; arg 1; whnf
  go_loopw [34] (fun iv wr => ∃ j : Nat, j ≤ k ∧ iv = .int .i64 j ∧ Hid (Below w2.heap.size w2 wr)) (fun i _ => k - (intOf i).toNat)
  case atStart => exact ⟨0, Nat.zero_le _, rfl, hide (Below.refl _ _)⟩
  case round =>
    obtain ⟨j, hj, rfl, HX⟩ := hrel
    by_cases hlt : j < k
    · have i1 : (j : Int) < (k : Int) := by omega
      obtain ⟨x2, rfl, -, m2⟩ := HR2.out.r2 j hlt
      obtain ⟨x4, rfl, -, m4⟩ := HR2.out.r4 j hlt
      obtain ⟨x5, rfl, -, m5⟩ := HR2.out.r5 j hlt
      obtain ⟨al1, rm1, rt1, rs1, q1, r1, al2, rm2, rt2, rs2, q2, r2, hH, hc1, hc2', heq⟩ := RW.out j hlt (x2.add j) (x4.add j) (x5.add j) wr m2 m4 m5 HX.out
      obtain ⟨rfl, rfl, rfl, rfl, rfl, rfl⟩ := heq (by trivial)
      have H0 := hide hH
      have C1 := hide hc1
      have C2 := hide hc2'
      clear m2 m4 m5 hc1 hc2' HX
      obtain ⟨-, m4, m5, -⟩ := hH
      go_upto_region 44 with fail
      go_cut [35] from 208 to 294 (fun rp wx => ∃ rb, rp = .pointer (some ⟨rb, 0, none⟩) ∧ Hid (HA w2 ((⟨rb, 0, none⟩, .int .i64 (D.NS j)) :: (⟨rb, 1, none⟩, .int .u64 (D.FR j)) :: L6 (x2.add j) (x4.add j) (x5.add j) s1 (s1 + 1) s2 (s2 + 1) j (D.B j) (D.NS j) (D.FR j) al1 rm1 rt1 rs1 q1 r1 al1 rm1 rt1 rs1 q1 r1) wx))
      case first =>
        have hLx := hide (HA.off H0.out)
        have hqx := hide (HA.below H0.out).size
        go_region_held3 (fun w' => w'.cell? (x2.add j) = some (.int .i64 (D.B j)) ∧ w'.cell? (x4.add j) = some (.int .i64 (D.NS j)) ∧ w'.cell? (x5.add j) = some (.int .u64 (D.FR j)) ∧ w'.cell? ⟨s1, j * 5, none⟩ = some (.bool al1) ∧ w'.cell? ⟨s1, j * 5 + 1, none⟩ = some (.int .i64 (D.B j)) ∧ w'.cell? ⟨s1, j * 5 + 2, none⟩ = some (.int .i64 rm1) ∧ w'.cell? ⟨s1, j * 5 + 3, none⟩ = some (.int .i64 rt1) ∧ w'.cell? ⟨s1, j * 5 + 4, none⟩ = some (.int .i64 rs1) ∧ w'.cell? ⟨s1 + 1, j * 2, none⟩ = some (.int .i64 q1) ∧ w'.cell? ⟨s1 + 1, j * 2 + 1, none⟩ = some (.int .u64 r1) ∧ w'.cell? ⟨s2, j * 5, none⟩ = some (.bool al1) ∧ w'.cell? ⟨s2, j * 5 + 1, none⟩ = some (.int .i64 (D.B j)) ∧ w'.cell? ⟨s2, j * 5 + 2, none⟩ = some (.int .i64 rm1) ∧ w'.cell? ⟨s2, j * 5 + 3, none⟩ = some (.int .i64 rt1) ∧ w'.cell? ⟨s2, j * 5 + 4, none⟩ = some (.int .i64 rs1) ∧ w'.cell? ⟨s2 + 1, j * 2, none⟩ = some (.int .i64 q1) ∧ w'.cell? ⟨s2 + 1, j * 2 + 1, none⟩ = some (.int .u64 r1) ∧ Below w2.heap.size w2 w')
          (first | with_reducible exact H0.out | with_reducible exact H0.out.drew | with_reducible exact H0.out.drew.alloc _ | with_reducible exact (H0.out.alloc _).drew | with_reducible exact (H0.out.drew.alloc _).own2 _ hLx.out hqx.out _ _ | with_reducible exact (H0.out.alloc _).drew.own2 _ hLx.out hqx.out _ _)
          (fail)
        all_goals go_wp2_with fail
        all_goals go_meet
        exact ⟨_, rfl, (HA.box H0.out _ _ _).drew⟩
      case rest =>
        obtain ⟨rb, rfl, HX⟩ := hcut
        clear m4 m5 H0
        go_upto_region 45 with fail
        obtain ⟨-, -, e2, -, -, -, d1, -, -, -, -, -, -, d2, -⟩ := HX.out
        go_quiet (fail)
        have H1 := hide (HX.out.drewN nq)
        generalize wc.drewN nq = w3 at *
        clear e2 d1 d2 HX
        obtain ⟨-, -, -, -, -, g0, g1, g2, g3, g4, g5, g6, f0, f1, f2, f3, f4, f5, f6, -⟩ := H1.out
        go_upto_region 47 with fail
        go_quiet (fail)
        have H2 := hide (H1.out.drewN nq)
        clear g0 g1 g2 g3 g4 g5 g6 f0 f1 f2 f3 f4 f5 f6
        generalize w3.drewN nq = w4 at *
        clear H1
        go_upto_region 49 with fail
        go_region_held3 (fun w' => w'.cell? ⟨rb, 0, none⟩ = some (.int .i64 (D.NS j)) ∧ w'.cell? ⟨rb, 1, none⟩ = some (.int .u64 (D.FR j)) ∧ w'.cell? (x2.add j) = some (.int .i64 (D.B j)) ∧ w'.cell? (x4.add j) = some (.int .i64 (D.NS j)) ∧ w'.cell? (x5.add j) = some (.int .u64 (D.FR j)) ∧ w'.cell? ⟨s1, j * 5, none⟩ = some (.bool al1) ∧ w'.cell? ⟨s1, j * 5 + 1, none⟩ = some (.int .i64 (D.B j)) ∧ w'.cell? ⟨s1, j * 5 + 2, none⟩ = some (.int .i64 rm1) ∧ w'.cell? ⟨s1, j * 5 + 3, none⟩ = some (.int .i64 rt1) ∧ w'.cell? ⟨s1, j * 5 + 4, none⟩ = some (.int .i64 rs1) ∧ w'.cell? ⟨s1 + 1, j * 2, none⟩ = some (.int .i64 q1) ∧ w'.cell? ⟨s1 + 1, j * 2 + 1, none⟩ = some (.int .u64 r1) ∧ w'.cell? ⟨s2, j * 5, none⟩ = some (.bool al1) ∧ w'.cell? ⟨s2, j * 5 + 1, none⟩ = some (.int .i64 (D.B j)) ∧ w'.cell? ⟨s2, j * 5 + 2, none⟩ = some (.int .i64 rm1) ∧ w'.cell? ⟨s2, j * 5 + 3, none⟩ = some (.int .i64 rt1) ∧ w'.cell? ⟨s2, j * 5 + 4, none⟩ = some (.int .i64 rs1) ∧ w'.cell? ⟨s2 + 1, j * 2, none⟩ = some (.int .i64 q1) ∧ w'.cell? ⟨s2 + 1, j * 2 + 1, none⟩ = some (.int .u64 r1) ∧ Below w2.heap.size w2 w')
          (first | with_reducible exact H2.out | with_reducible exact H2.out.drew | with_reducible exact V1.out | with_reducible exact V1.out.drew | with_reducible exact V2.out)
          (first
            | (have hh := V1; clear hh; go_at_call 21; refine (C2.out _).mono ?_; rintro e w6 ⟨rfl, hb6⟩; have V2 := hide (V1.out.call hb6))
            | (go_at_call 21; refine (C1.out _).mono ?_; rintro e w5 ⟨rfl, hb5⟩; have V1 := hide (H2.out.drew.call hb5)))
        go_wp2_with fail
        go_roundw
        case rel => exact ⟨j + 1, by omega, by go_num, hide (HA.below V2.out)⟩
        case measure => simp [intOf]; omega
    · have i1 : ¬ (j : Int) < (k : Int) := by omega
      have e : j = k := by omega
      subst e
      go_wp2_with fail
      exact HEX.out _ _ _ _ _ _ _ _ _ _ _ _ _ _ _ _ _ _ _ _ _ _ _ _ _ _ _ _ _ _ _ _ _ _ _ _ _ _ _ _ _ _ _ _ _ _ _ _ _ _ _ _ _ _ _ _ _ _ _ _ _ _ _ _ _ _ _ _ _ _ _ _ _ _ _ _ _ _ _ _ _ _ _ _ _ _ _ _ _ _ HX
end Go.Proofs.Qxb6612665a.W
