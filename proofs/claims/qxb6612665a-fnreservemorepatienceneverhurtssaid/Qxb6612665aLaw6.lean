import Derived.Test.Qxb6612665aSixC
import Derived.Test.Qxb6612665aSixD
import Derived.BigQuiet
namespace Go.Proofs.Qxb6612665a.W
open Go.RowKit
set_option linter.unusedVariables false

set_option maxRecDepth 1000000 in
set_option maxHeartbeats 4000000 in
theorem law6_coreA (D : Dat) (a0 a1 a2 a3 a4 a5 a6 : Option Addr) (n c0 c1 c2 c3 c4 c5 c6 : Nat) (c z8 z9 : Int) (hn : n ≤ 8192) (hsw : ¬ z8 > z9) (hc2 : c ≤ 9223372036854775807) (h8 : z8 ≤ 9223372036854775807) (h9 : z9 ≤ 9223372036854775807)
    (hwf : Wfs D.L D.P D.B D.NS D.FR n) (hlt : ∀ i, i < n → 0 ≤ D.LT i ∧ D.LT i < 18446744073709551616) (w : World) (hR : Rows7 D a0 a1 a2 a3 a4 a5 a6 n w) :
    Calls Try.prog 6 #[.slice a0 n c0, .slice a1 n c1, .slice a2 n c2, .slice a3 n c3, .slice a4 n c4, .slice a5 n c5, .slice a6 n c6, .int .i64 c, .int .i64 z8, .int .i64 z9] w fun e w' => e = .returned (.bool true) ∧ Below w.heap.size w w' := by
  have HR := hide hR
  have HWF := hide hwf
  have HLT := hide hlt
  have n1 : ¬ (n : Int) > 8192 := by omega
  have mk34 := make34 n hn
  have mk41 := make41 n hn
  have mk42 := make42 n hn
  clear hR hwf hlt
  go_enter Try.func6, Try.ntmps6
  go_wp2_with fail
  refine (bytes20 a0 a1 a2 a3 a4 a5 a6 n c0 n c1 n c2 n c3 n c4 n c5 n c6 c z8 z9 w).mono ?_
  rintro e w' ⟨r, rfl, rfl⟩
  cases r
  · go_wp2_with fail
    go_ret
    exact ⟨rfl, Below.refl _ _⟩
  · go_upto_region 24 with fail
    go_wp2_with (go_at_call 12; refine (fits_any a0 a1 a2 a4 a5 n c0 c1 c2 c4 c5 D.L D.P D.B D.NS D.FR c z9 hn (by omega) hc2 HWF.out w HR.out.r0 HR.out.r1 HR.out.r2 HR.out.r4 HR.out.r5).mono ?_; rintro e w' ⟨r, rfl, rfl, hfit⟩; have HFIT := hide hfit; clear hfit; cases r)
    · go_wp2_with fail
      go_ret
      exact ⟨rfl, Below.refl _ _⟩
    · obtain ⟨hc1, hF⟩ := HFIT.out (by trivial)
      have HF := hide hF
      clear HFIT hF
      obtain ⟨cn, rfl⟩ : ∃ cn : Nat, c = cn := ⟨c.toNat, by omega⟩
      go_wp2_with fail
      refine law6_loop1 D a0 a1 a2 a3 a4 a5 a6 n c0 c1 c2 c3 c4 c5 c6 cn (lgv z9) hn w HR HWF HF _ (hide BL.start) _ _ _ _ _ _ _ _ _ _ _ _ _ _ _ _ _ _ _ _ _ _ _ _ _ _ _ _ _ _ _ _ _ _ _ _ _ _ _ _ _ _ _ _ _ _ _ _ _ _ _ _ _ _ _ _ _ _ _ _ _ _ _ _ _ _ _ _ _ _ _ _ _ _ _ _ _ _ _ _ _ _ _ _ _ _ _ _ _ _ _ _ _ _ _ _ _ _ _ _ _ _ _ _ _ _ _ _ _ _ _ _ _ _ _ _ _ _ _ _ _ _ _ _ _ _ _ _ _ _ _ _ _ _ _ _ _ _ _ _ _ _ _ _ _ _ _ _ _ _ _ _ _ _ _ _ _ _ _ _ _ _ _ _ _ _ _ _ _ _ _ _ _ _ _ _ _ _ _ _ _ _ _ _ _ _ _ _ _ _ _ _ _ _ _ _ _ _ _ _ _ _ _ _ _ _ _ _ _ _ _ _ _ _ _ _ _ _ _ _ _ _ _ _ _ _ _ _ _ _ _ _ _ _ _ _ _ _ _ _ _ _ _ _ _ _ _ _ _ _ _ _ _ _ _ _ _ _ _ _ _ _ _ _ _ _ _ _ _ _ _ _ _ _ _ _ _ _ _ _ _ _ _ _ _ _ ?_
      intro G wr u123 u124 u125 u126 u127 u128 u129 u130 u131 u132 u133 u134 u135 u136 u137 u138 u139 u140 u141 u142 u143 u144 u145 u146 u147 u148 u149 u150 u151 u152 u153 u154 u155 u156 u157 u158 u159 u160 u161 HB
      obtain ⟨C, hC⟩ := set6 (by omega) HB.out HF.out HWF.out HLT.out
      have HC := hide hC
      have lg1 := hide (lgv_ge (z9))
      have lg2 : Hid (z8 ≤ lgv (z9)) := by have := lg1.out; unfold Hid; omega
      have R1 := hide (reserve_fresh C cn n w.heap.size (z8) (lgv (z9)) hn hC.good wr hC.ins HB.out.own.1 #[.bool false, .int .i64 0, .int .i64 0, .int .i64 0, .int .i64 0] #[.int .i64 0, .int .u64 0] (lgv_nn _) lg2.out hC.sum)
      have HB0 := hide HB.out.below
      have tlt := hide HB.out.own.1
      clear HB hC
      go_wp2_with fail
      refine R1.out.mono ?_
      rintro e w1 ⟨rfl, hb1, z1, ds1, ns1⟩
      have HC1 := hide (HC.out.later hb1)
      have tl1 : Hid (w.heap.size < w1.heap.size) := by have := tlt.out; have := hb1.size; unfold Hid; omega
      have R2 := hide (reserve_fresh C cn n w.heap.size (z9) (lgv (z9)) hn HC1.out.good w1 HC1.out.ins tl1.out #[.bool false, .int .i64 0, .int .i64 0, .int .i64 0, .int .i64 0] #[.int .i64 0, .int .u64 0] (lgv_nn _) lg1.out HC1.out.sum)
      have HB1 := hide (HB0.out.trans (hb1.mono HB0.out.size))
      have Z1 := hide z1
      have DS1 := hide ds1
      have NS1 := hide ns1
      clear hb1 z1 ds1 ns1 R1 HB0
      go_wp2_with fail
      refine R2.out.mono ?_
      rintro e w2 ⟨rfl, hb2, z2, ds2, ns2⟩
      have HB2 := hide (HB1.out.trans (hb2.mono HB1.out.size))
      have DD1 := hide (fun i (hi : i < n) => (DS1.out i hi).call hb2)
      have NN1 := hide (fun i (hi : i < n) => NC.call (NS1.out i hi) hb2)
      have DD2 := hide ds2
      have NN2 := hide ns2
      have MO : Hid (adm C cn (z8) n = true → adm C cn (z9) n = true) := fun h => adm_mono (by omega) h
      have DE : Hid (adm C cn (z8) n = true → 0 < n → del C cn n ≤ z8) := fun h h0 => (adm_del HC.out.good h0 h).2
      have zz : Hid (wr.heap.size + 1 < w1.heap.size ∧ w1.heap.size + 1 < w2.heap.size) := ⟨Z1.out, z2⟩
      have HCG := hide HC.out
      clear hb2 z2 ds2 ns2 R2 HB1 DS1 NS1 Z1 HC1 HC tl1 tlt lg1 lg2 mk34 mk41 mk42
      generalize adm C cn (z8) n = ad1 at *
      generalize adm C cn (z9) n = ad2 at *
      generalize del C cn n = dl at *
      have OO : Hid (ad1 = true → dout ad1 dl = dout ad2 dl ∧ (0 < n → dout ad1 dl ≤ z8)) := fun h => by
        have h2 := MO.out h
        have h3 := DE.out h
        subst h h2
        exact ⟨rfl, h3⟩
      have HR2 := hide (HR.out.later HB2.out)
      clear DE HF HWF HLT
      generalize wr.heap.size = s1 at *
      generalize w1.heap.size = s2 at *
      cases ad1
      · clear OO MO
        generalize dout false dl = o1 at *
        generalize dout ad2 dl = o2 at *
        go_wp2_with fail
        refine law6_loop2f D C a0 a1 a2 a3 a4 a5 a6 n c0 c1 c2 c3 c4 c5 c6 cn s1 s2 w.heap.size (lgv z9) z8 z9 dl ad2 hn w2 _ HCG DD1 NN1 DD2 NN2 HR2 _ _ _ _ _ _ _ _ _ _ _ _ _ _ _ _ _ _ _ _ _ _ _ _ _ _ _ _ _ _ _ _ _ _ _ _ _ _ _ _ _ _ _ _ _ _ _ _ _ _ _ _ _ _ _ _ _ _ _ _ _ _ _ _ _ _ _ _ _ _ _ _ _ _ _ _ _ _ _ _ _ _ _ _ _ _ _ _ _ _ _ _ _ _ _ _ _ _ _ _ _ _ _ _ _ _ _ _ _ _ _ _ _ _ _ _ _ _ _ _ _ _ _ _ _ _ _ _ _ _ _ _ _ _ _ _ _ _ _ _ _ _ _ _ _ _ _ _ _ _ _ _ _ _ _ _ _ _ _ _ _ _ _ _ _ _ _ _ _ _ _ _ _ _ _ _ _ _ _ _ _ _ _ _ _ _ _ _ _ _ _ _ _ _ _ _ _ _ _ _ _ _ _ _ _ _ _ _ _ _ _ _ _ _ _ _ _ _ _ _ _ _ _ _ _ _ _ _ _ _ _ _ _ _ _ _ _ _ _ _ _ _ _ _ _ _ _ _ _ _ _ _ _ _ _ _ _ _ _ _ _ _ _ _ _ _ _ _ _ _ _ _ _ _ _ _ _ _ _ _ _ ?_
        intro wr' u20 u35 u208 u209 u210 u211 u212 u213 u214 u215 u216 u217 u218 u219 u220 u221 u222 u223 u224 u225 u226 u227 u228 u229 u230 u231 u232 u233 u234 u235 u236 u237 u238 u239 u240 u241 u242 u243 u244 u245 u246 u247 u248 u249 u250 u251 u252 u253 u254 u255 u256 u257 u258 u259 u260 u261 u262 u263 u264 u265 u266 u267 u268 u269 u270 u271 u272 u273 u274 u275 u276 u277 u278 u279 u280 u281 u282 u283 u284 u285 u286 u287 u288 u289 u290 u291 u292 u293 u294 HX
        go_wp2_with fail
        go_ret
        exact ⟨rfl, below_call HB2.out HX.out HB2.out.size⟩
      · obtain rfl : ad2 = true := MO.out rfl
        obtain ⟨-, od⟩ := OO.out rfl
        have OD := hide od
        clear od OO MO
        generalize dout true dl = o1 at *
        by_cases h0 : 0 < n
        · have i2 : (n : Int) > 0 := by omega
          have o1s : ¬ o1 > z8 := by have := OD.out h0; omega
          clear OD
          go_wp2_with fail
          refine law6_loop2t D C a0 a1 a2 a3 a4 a5 a6 n c0 c1 c2 c3 c4 c5 c6 cn s1 s2 w.heap.size (lgv z9) z8 z9 dl hn w2 _ HCG DD1 NN1 DD2 NN2 HR2 _ _ _ _ _ _ _ _ _ _ _ _ _ _ _ _ _ _ _ _ _ _ _ _ _ _ _ _ _ _ _ _ _ _ _ _ _ _ _ _ _ _ _ _ _ _ _ _ _ _ _ _ _ _ _ _ _ _ _ _ _ _ _ _ _ _ _ _ _ _ _ _ _ _ _ _ _ _ _ _ _ _ _ _ _ _ _ _ _ _ _ _ _ _ _ _ _ _ _ _ _ _ _ _ _ _ _ _ _ _ _ _ _ _ _ _ _ _ _ _ _ _ _ _ _ _ _ _ _ _ _ _ _ _ _ _ _ _ _ _ _ _ _ _ _ _ _ _ _ _ _ _ _ _ _ _ _ _ _ _ _ _ _ _ _ _ _ _ _ _ _ _ _ _ _ _ _ _ _ _ _ _ _ _ _ _ _ _ _ _ _ _ _ _ _ _ _ _ _ _ _ _ _ _ _ _ _ _ _ _ _ _ _ _ _ _ _ _ _ _ _ _ _ _ _ _ _ _ _ _ _ _ _ _ _ _ _ _ _ _ _ _ _ _ _ _ _ _ _ _ _ _ _ _ _ _ _ _ _ _ _ _ _ _ _ _ _ _ _ _ _ _ _ _ _ _ _ _ _ _ _ ?_
          intro wr' u20 u35 u208 u209 u210 u211 u212 u213 u214 u215 u216 u217 u218 u219 u220 u221 u222 u223 u224 u225 u226 u227 u228 u229 u230 u231 u232 u233 u234 u235 u236 u237 u238 u239 u240 u241 u242 u243 u244 u245 u246 u247 u248 u249 u250 u251 u252 u253 u254 u255 u256 u257 u258 u259 u260 u261 u262 u263 u264 u265 u266 u267 u268 u269 u270 u271 u272 u273 u274 u275 u276 u277 u278 u279 u280 u281 u282 u283 u284 u285 u286 u287 u288 u289 u290 u291 u292 u293 u294 HX
          go_wp2_with fail
          go_ret
          exact ⟨rfl, below_call HB2.out HX.out HB2.out.size⟩
        · have i2 : ¬ (n : Int) > 0 := by omega
          clear OD
          go_wp2_with fail
          refine law6_loop2t D C a0 a1 a2 a3 a4 a5 a6 n c0 c1 c2 c3 c4 c5 c6 cn s1 s2 w.heap.size (lgv z9) z8 z9 dl hn w2 _ HCG DD1 NN1 DD2 NN2 HR2 _ _ _ _ _ _ _ _ _ _ _ _ _ _ _ _ _ _ _ _ _ _ _ _ _ _ _ _ _ _ _ _ _ _ _ _ _ _ _ _ _ _ _ _ _ _ _ _ _ _ _ _ _ _ _ _ _ _ _ _ _ _ _ _ _ _ _ _ _ _ _ _ _ _ _ _ _ _ _ _ _ _ _ _ _ _ _ _ _ _ _ _ _ _ _ _ _ _ _ _ _ _ _ _ _ _ _ _ _ _ _ _ _ _ _ _ _ _ _ _ _ _ _ _ _ _ _ _ _ _ _ _ _ _ _ _ _ _ _ _ _ _ _ _ _ _ _ _ _ _ _ _ _ _ _ _ _ _ _ _ _ _ _ _ _ _ _ _ _ _ _ _ _ _ _ _ _ _ _ _ _ _ _ _ _ _ _ _ _ _ _ _ _ _ _ _ _ _ _ _ _ _ _ _ _ _ _ _ _ _ _ _ _ _ _ _ _ _ _ _ _ _ _ _ _ _ _ _ _ _ _ _ _ _ _ _ _ _ _ _ _ _ _ _ _ _ _ _ _ _ _ _ _ _ _ _ _ _ _ _ _ _ _ _ _ _ _ _ _ _ _ _ _ _ _ _ _ _ _ _ _ ?_
          intro wr' u20 u35 u208 u209 u210 u211 u212 u213 u214 u215 u216 u217 u218 u219 u220 u221 u222 u223 u224 u225 u226 u227 u228 u229 u230 u231 u232 u233 u234 u235 u236 u237 u238 u239 u240 u241 u242 u243 u244 u245 u246 u247 u248 u249 u250 u251 u252 u253 u254 u255 u256 u257 u258 u259 u260 u261 u262 u263 u264 u265 u266 u267 u268 u269 u270 u271 u272 u273 u274 u275 u276 u277 u278 u279 u280 u281 u282 u283 u284 u285 u286 u287 u288 u289 u290 u291 u292 u293 u294 HX
          go_wp2_with fail
          go_ret
          exact ⟨rfl, below_call HB2.out HX.out HB2.out.size⟩

set_option maxRecDepth 1000000 in
set_option maxHeartbeats 4000000 in
theorem law6_coreB (D : Dat) (a0 a1 a2 a3 a4 a5 a6 : Option Addr) (n c0 c1 c2 c3 c4 c5 c6 : Nat) (c z8 z9 : Int) (hn : n ≤ 8192) (hsw : z8 > z9) (hc2 : c ≤ 9223372036854775807) (h8 : z8 ≤ 9223372036854775807) (h9 : z9 ≤ 9223372036854775807)
    (hwf : Wfs D.L D.P D.B D.NS D.FR n) (hlt : ∀ i, i < n → 0 ≤ D.LT i ∧ D.LT i < 18446744073709551616) (w : World) (hR : Rows7 D a0 a1 a2 a3 a4 a5 a6 n w) :
    Calls Try.prog 6 #[.slice a0 n c0, .slice a1 n c1, .slice a2 n c2, .slice a3 n c3, .slice a4 n c4, .slice a5 n c5, .slice a6 n c6, .int .i64 c, .int .i64 z8, .int .i64 z9] w fun e w' => e = .returned (.bool true) ∧ Below w.heap.size w w' := by
  have HR := hide hR
  have HWF := hide hwf
  have HLT := hide hlt
  have n1 : ¬ (n : Int) > 8192 := by omega
  have mk34 := make34 n hn
  have mk41 := make41 n hn
  have mk42 := make42 n hn
  clear hR hwf hlt
  go_enter Try.func6, Try.ntmps6
  go_wp2_with fail
  refine (bytes20 a0 a1 a2 a3 a4 a5 a6 n c0 n c1 n c2 n c3 n c4 n c5 n c6 c z8 z9 w).mono ?_
  rintro e w' ⟨r, rfl, rfl⟩
  cases r
  · go_wp2_with fail
    go_ret
    exact ⟨rfl, Below.refl _ _⟩
  · go_upto_region 24 with fail
    go_wp2_with (go_at_call 12; refine (fits_any a0 a1 a2 a4 a5 n c0 c1 c2 c4 c5 D.L D.P D.B D.NS D.FR c z8 hn (by omega) hc2 HWF.out w HR.out.r0 HR.out.r1 HR.out.r2 HR.out.r4 HR.out.r5).mono ?_; rintro e w' ⟨r, rfl, rfl, hfit⟩; have HFIT := hide hfit; clear hfit; cases r)
    · go_wp2_with fail
      go_ret
      exact ⟨rfl, Below.refl _ _⟩
    · obtain ⟨hc1, hF⟩ := HFIT.out (by trivial)
      have HF := hide hF
      clear HFIT hF
      obtain ⟨cn, rfl⟩ : ∃ cn : Nat, c = cn := ⟨c.toNat, by omega⟩
      go_wp2_with fail
      refine law6_loop1 D a0 a1 a2 a3 a4 a5 a6 n c0 c1 c2 c3 c4 c5 c6 cn (lgv z8) hn w HR HWF HF _ (hide BL.start) _ _ _ _ _ _ _ _ _ _ _ _ _ _ _ _ _ _ _ _ _ _ _ _ _ _ _ _ _ _ _ _ _ _ _ _ _ _ _ _ _ _ _ _ _ _ _ _ _ _ _ _ _ _ _ _ _ _ _ _ _ _ _ _ _ _ _ _ _ _ _ _ _ _ _ _ _ _ _ _ _ _ _ _ _ _ _ _ _ _ _ _ _ _ _ _ _ _ _ _ _ _ _ _ _ _ _ _ _ _ _ _ _ _ _ _ _ _ _ _ _ _ _ _ _ _ _ _ _ _ _ _ _ _ _ _ _ _ _ _ _ _ _ _ _ _ _ _ _ _ _ _ _ _ _ _ _ _ _ _ _ _ _ _ _ _ _ _ _ _ _ _ _ _ _ _ _ _ _ _ _ _ _ _ _ _ _ _ _ _ _ _ _ _ _ _ _ _ _ _ _ _ _ _ _ _ _ _ _ _ _ _ _ _ _ _ _ _ _ _ _ _ _ _ _ _ _ _ _ _ _ _ _ _ _ _ _ _ _ _ _ _ _ _ _ _ _ _ _ _ _ _ _ _ _ _ _ _ _ _ _ _ _ _ _ _ _ _ _ _ _ _ _ _ _ _ _ _ _ _ _ _ _ _ _ _ ?_
      intro G wr u123 u124 u125 u126 u127 u128 u129 u130 u131 u132 u133 u134 u135 u136 u137 u138 u139 u140 u141 u142 u143 u144 u145 u146 u147 u148 u149 u150 u151 u152 u153 u154 u155 u156 u157 u158 u159 u160 u161 HB
      obtain ⟨C, hC⟩ := set6 (by omega) HB.out HF.out HWF.out HLT.out
      have HC := hide hC
      have lg1 := hide (lgv_ge (z8))
      have lg2 : Hid (z9 ≤ lgv (z8)) := by have := lg1.out; unfold Hid; omega
      have R1 := hide (reserve_fresh C cn n w.heap.size (z9) (lgv (z8)) hn hC.good wr hC.ins HB.out.own.1 #[.bool false, .int .i64 0, .int .i64 0, .int .i64 0, .int .i64 0] #[.int .i64 0, .int .u64 0] (lgv_nn _) lg2.out hC.sum)
      have HB0 := hide HB.out.below
      have tlt := hide HB.out.own.1
      clear HB hC
      go_wp2_with fail
      refine R1.out.mono ?_
      rintro e w1 ⟨rfl, hb1, z1, ds1, ns1⟩
      have HC1 := hide (HC.out.later hb1)
      have tl1 : Hid (w.heap.size < w1.heap.size) := by have := tlt.out; have := hb1.size; unfold Hid; omega
      have R2 := hide (reserve_fresh C cn n w.heap.size (z8) (lgv (z8)) hn HC1.out.good w1 HC1.out.ins tl1.out #[.bool false, .int .i64 0, .int .i64 0, .int .i64 0, .int .i64 0] #[.int .i64 0, .int .u64 0] (lgv_nn _) lg1.out HC1.out.sum)
      have HB1 := hide (HB0.out.trans (hb1.mono HB0.out.size))
      have Z1 := hide z1
      have DS1 := hide ds1
      have NS1 := hide ns1
      clear hb1 z1 ds1 ns1 R1 HB0
      go_wp2_with fail
      refine R2.out.mono ?_
      rintro e w2 ⟨rfl, hb2, z2, ds2, ns2⟩
      have HB2 := hide (HB1.out.trans (hb2.mono HB1.out.size))
      have DD1 := hide (fun i (hi : i < n) => (DS1.out i hi).call hb2)
      have NN1 := hide (fun i (hi : i < n) => NC.call (NS1.out i hi) hb2)
      have DD2 := hide ds2
      have NN2 := hide ns2
      have MO : Hid (adm C cn (z9) n = true → adm C cn (z8) n = true) := fun h => adm_mono (by omega) h
      have DE : Hid (adm C cn (z9) n = true → 0 < n → del C cn n ≤ z9) := fun h h0 => (adm_del HC.out.good h0 h).2
      have zz : Hid (wr.heap.size + 1 < w1.heap.size ∧ w1.heap.size + 1 < w2.heap.size) := ⟨Z1.out, z2⟩
      have HCG := hide HC.out
      clear hb2 z2 ds2 ns2 R2 HB1 DS1 NS1 Z1 HC1 HC tl1 tlt lg1 lg2 mk34 mk41 mk42
      generalize adm C cn (z9) n = ad1 at *
      generalize adm C cn (z8) n = ad2 at *
      generalize del C cn n = dl at *
      have OO : Hid (ad1 = true → dout ad1 dl = dout ad2 dl ∧ (0 < n → dout ad1 dl ≤ z9)) := fun h => by
        have h2 := MO.out h
        have h3 := DE.out h
        subst h h2
        exact ⟨rfl, h3⟩
      have HR2 := hide (HR.out.later HB2.out)
      clear DE HF HWF HLT
      generalize wr.heap.size = s1 at *
      generalize w1.heap.size = s2 at *
      cases ad1
      · clear OO MO
        generalize dout false dl = o1 at *
        generalize dout ad2 dl = o2 at *
        go_wp2_with fail
        refine law6_loop2f D C a0 a1 a2 a3 a4 a5 a6 n c0 c1 c2 c3 c4 c5 c6 cn s1 s2 w.heap.size (lgv z8) z9 z8 dl ad2 hn w2 _ HCG DD1 NN1 DD2 NN2 HR2 _ _ _ _ _ _ _ _ _ _ _ _ _ _ _ _ _ _ _ _ _ _ _ _ _ _ _ _ _ _ _ _ _ _ _ _ _ _ _ _ _ _ _ _ _ _ _ _ _ _ _ _ _ _ _ _ _ _ _ _ _ _ _ _ _ _ _ _ _ _ _ _ _ _ _ _ _ _ _ _ _ _ _ _ _ _ _ _ _ _ _ _ _ _ _ _ _ _ _ _ _ _ _ _ _ _ _ _ _ _ _ _ _ _ _ _ _ _ _ _ _ _ _ _ _ _ _ _ _ _ _ _ _ _ _ _ _ _ _ _ _ _ _ _ _ _ _ _ _ _ _ _ _ _ _ _ _ _ _ _ _ _ _ _ _ _ _ _ _ _ _ _ _ _ _ _ _ _ _ _ _ _ _ _ _ _ _ _ _ _ _ _ _ _ _ _ _ _ _ _ _ _ _ _ _ _ _ _ _ _ _ _ _ _ _ _ _ _ _ _ _ _ _ _ _ _ _ _ _ _ _ _ _ _ _ _ _ _ _ _ _ _ _ _ _ _ _ _ _ _ _ _ _ _ _ _ _ _ _ _ _ _ _ _ _ _ _ _ _ _ _ _ _ _ _ _ _ _ _ _ _ ?_
        intro wr' u20 u35 u208 u209 u210 u211 u212 u213 u214 u215 u216 u217 u218 u219 u220 u221 u222 u223 u224 u225 u226 u227 u228 u229 u230 u231 u232 u233 u234 u235 u236 u237 u238 u239 u240 u241 u242 u243 u244 u245 u246 u247 u248 u249 u250 u251 u252 u253 u254 u255 u256 u257 u258 u259 u260 u261 u262 u263 u264 u265 u266 u267 u268 u269 u270 u271 u272 u273 u274 u275 u276 u277 u278 u279 u280 u281 u282 u283 u284 u285 u286 u287 u288 u289 u290 u291 u292 u293 u294 HX
        go_wp2_with fail
        go_ret
        exact ⟨rfl, below_call HB2.out HX.out HB2.out.size⟩
      · obtain rfl : ad2 = true := MO.out rfl
        obtain ⟨-, od⟩ := OO.out rfl
        have OD := hide od
        clear od OO MO
        generalize dout true dl = o1 at *
        by_cases h0 : 0 < n
        · have i2 : (n : Int) > 0 := by omega
          have o1s : ¬ o1 > z9 := by have := OD.out h0; omega
          clear OD
          go_wp2_with fail
          refine law6_loop2t D C a0 a1 a2 a3 a4 a5 a6 n c0 c1 c2 c3 c4 c5 c6 cn s1 s2 w.heap.size (lgv z8) z9 z8 dl hn w2 _ HCG DD1 NN1 DD2 NN2 HR2 _ _ _ _ _ _ _ _ _ _ _ _ _ _ _ _ _ _ _ _ _ _ _ _ _ _ _ _ _ _ _ _ _ _ _ _ _ _ _ _ _ _ _ _ _ _ _ _ _ _ _ _ _ _ _ _ _ _ _ _ _ _ _ _ _ _ _ _ _ _ _ _ _ _ _ _ _ _ _ _ _ _ _ _ _ _ _ _ _ _ _ _ _ _ _ _ _ _ _ _ _ _ _ _ _ _ _ _ _ _ _ _ _ _ _ _ _ _ _ _ _ _ _ _ _ _ _ _ _ _ _ _ _ _ _ _ _ _ _ _ _ _ _ _ _ _ _ _ _ _ _ _ _ _ _ _ _ _ _ _ _ _ _ _ _ _ _ _ _ _ _ _ _ _ _ _ _ _ _ _ _ _ _ _ _ _ _ _ _ _ _ _ _ _ _ _ _ _ _ _ _ _ _ _ _ _ _ _ _ _ _ _ _ _ _ _ _ _ _ _ _ _ _ _ _ _ _ _ _ _ _ _ _ _ _ _ _ _ _ _ _ _ _ _ _ _ _ _ _ _ _ _ _ _ _ _ _ _ _ _ _ _ _ _ _ _ _ _ _ _ _ _ _ _ _ _ _ _ _ _ _ ?_
          intro wr' u20 u35 u208 u209 u210 u211 u212 u213 u214 u215 u216 u217 u218 u219 u220 u221 u222 u223 u224 u225 u226 u227 u228 u229 u230 u231 u232 u233 u234 u235 u236 u237 u238 u239 u240 u241 u242 u243 u244 u245 u246 u247 u248 u249 u250 u251 u252 u253 u254 u255 u256 u257 u258 u259 u260 u261 u262 u263 u264 u265 u266 u267 u268 u269 u270 u271 u272 u273 u274 u275 u276 u277 u278 u279 u280 u281 u282 u283 u284 u285 u286 u287 u288 u289 u290 u291 u292 u293 u294 HX
          go_wp2_with fail
          go_ret
          exact ⟨rfl, below_call HB2.out HX.out HB2.out.size⟩
        · have i2 : ¬ (n : Int) > 0 := by omega
          clear OD
          go_wp2_with fail
          refine law6_loop2t D C a0 a1 a2 a3 a4 a5 a6 n c0 c1 c2 c3 c4 c5 c6 cn s1 s2 w.heap.size (lgv z8) z9 z8 dl hn w2 _ HCG DD1 NN1 DD2 NN2 HR2 _ _ _ _ _ _ _ _ _ _ _ _ _ _ _ _ _ _ _ _ _ _ _ _ _ _ _ _ _ _ _ _ _ _ _ _ _ _ _ _ _ _ _ _ _ _ _ _ _ _ _ _ _ _ _ _ _ _ _ _ _ _ _ _ _ _ _ _ _ _ _ _ _ _ _ _ _ _ _ _ _ _ _ _ _ _ _ _ _ _ _ _ _ _ _ _ _ _ _ _ _ _ _ _ _ _ _ _ _ _ _ _ _ _ _ _ _ _ _ _ _ _ _ _ _ _ _ _ _ _ _ _ _ _ _ _ _ _ _ _ _ _ _ _ _ _ _ _ _ _ _ _ _ _ _ _ _ _ _ _ _ _ _ _ _ _ _ _ _ _ _ _ _ _ _ _ _ _ _ _ _ _ _ _ _ _ _ _ _ _ _ _ _ _ _ _ _ _ _ _ _ _ _ _ _ _ _ _ _ _ _ _ _ _ _ _ _ _ _ _ _ _ _ _ _ _ _ _ _ _ _ _ _ _ _ _ _ _ _ _ _ _ _ _ _ _ _ _ _ _ _ _ _ _ _ _ _ _ _ _ _ _ _ _ _ _ _ _ _ _ _ _ _ _ _ _ _ _ _ _ _ ?_
          intro wr' u20 u35 u208 u209 u210 u211 u212 u213 u214 u215 u216 u217 u218 u219 u220 u221 u222 u223 u224 u225 u226 u227 u228 u229 u230 u231 u232 u233 u234 u235 u236 u237 u238 u239 u240 u241 u242 u243 u244 u245 u246 u247 u248 u249 u250 u251 u252 u253 u254 u255 u256 u257 u258 u259 u260 u261 u262 u263 u264 u265 u266 u267 u268 u269 u270 u271 u272 u273 u274 u275 u276 u277 u278 u279 u280 u281 u282 u283 u284 u285 u286 u287 u288 u289 u290 u291 u292 u293 u294 HX
          go_wp2_with fail
          go_ret
          exact ⟨rfl, below_call HB2.out HX.out HB2.out.size⟩

end Go.Proofs.Qxb6612665a.W
