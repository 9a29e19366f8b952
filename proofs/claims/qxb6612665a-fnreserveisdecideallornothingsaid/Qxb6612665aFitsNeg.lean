import Derived.Test.Qxb6612665aFits
namespace Go.Proofs.Qxb6612665a.W
open Go.RowKit
set_option linter.unusedVariables false

set_option maxRecDepth 100000 in
set_option maxHeartbeats 2000000 in
theorem fits_neg (a0 a1 a2 a3 a4 : Option Addr) (n c0 c1 c2 c3 c4 : Nat) (L P B NS FR : Nat → Int) (c longest : Int) (hn : n ≤ 8192) (hc : 1 ≤ c) (hlg : longest < 0) (hlg2 : longest ≤ 9223372036854775807) (hc2 : c ≤ 9223372036854775807) (hwf : Wfs L P B NS FR n) (w : World)
    (h0 : IRow .u64 a0 n L w) (h1 : IRow .u64 a1 n P w) (h2 : IRow .i64 a2 n B w) (h3 : IRow .i64 a3 n NS w) (h4 : IRow .u64 a4 n FR w) :
    Calls Try.prog 12 #[.slice a0 n c0, .slice a1 n c1, .slice a2 n c2, .slice a3 n c3, .slice a4 n c4, .int .i64 c, .int .i64 longest] w fun e w' => FitPost (0 : Int) c L P B NS FR n w e w' := by
  have H0 := hide h0
  have H1 := hide h1
  have H2 := hide h2
  have H3 := hide h3
  have H4 := hide h4
  have HW' := hide hwf
  have n1 : ¬ c < 1 := by omega
  clear h0 h1 h2 h3 h4 hwf
  go_enter Try.func12, Try.ntmps12
  go_wp2_with fail
  go_loop [16] (fun iv => ∃ k : Nat, k ≤ n ∧ iv = .int .i64 k ∧ Hid (∀ i, i < k → FitAt (0 : Int) c (L i) (P i) (B i) (NS i) (FR i))) (fun i => n - (intOf i).toNat)
  case atStart => exact ⟨0, Nat.zero_le _, rfl, hide (fun i hi => absurd hi (Nat.not_lt_zero i))⟩
  case round =>
    obtain ⟨k, hk, rfl, HF⟩ := hrel
    by_cases hlt : k < n
    · have i1 : (k : Int) < (n : Int) := by omega
      obtain ⟨x0, rfl, -, m0⟩ := H0.out k hlt
      obtain ⟨x1, rfl, -, m1⟩ := H1.out k hlt
      obtain ⟨x2, rfl, -, m2⟩ := H2.out k hlt
      obtain ⟨x3, rfl, -, m3⟩ := H3.out k hlt
      obtain ⟨x4, rfl, -, m4⟩ := H4.out k hlt
      have bl := HW'.out.l k hlt
      have bp := HW'.out.p k hlt
      have bb := HW'.out.b k hlt
      have bn := HW'.out.ns k hlt
      have bf := HW'.out.fr k hlt
      clear H0 H1 H2 H3 H4 HW'
      generalize hl : L k = l at m0 bl
      generalize hp : P k = p at m1 bp
      generalize hb : B k = b at m2 bb
      generalize hs : NS k = ns at m3 bn
      generalize hf : FR k = fr at m4 bf
      have EL := hide hl
      have EP := hide hp
      have EB := hide hb
      have ES := hide hs
      have EF := hide hf
      clear hl hp hb hs hf
      obtain ⟨bl0, bl1⟩ := bl
      obtain ⟨bp0, bp1⟩ := bp
      obtain ⟨bb0, bb1⟩ := bb
      obtain ⟨bn0, bn1⟩ := bn
      obtain ⟨bf0, bf1⟩ := bf
      by_cases t1 : l = 0
      · have t1 : (l == 0) = true := by simp [t1]
        go_wp2_with fail
        go_ret
        exact ⟨false, rfl, rfl, fun h => by cases h⟩
      by_cases t2 : l > 9223372036854775807
      · have t1 : (l == 0) = false := by simp [t1]
        go_wp2_with fail
        go_ret
        exact ⟨false, rfl, rfl, fun h => by cases h⟩
      by_cases t3 : p = 0
      · have t1 : (l == 0) = false := by simp [t1]
        have t3 : (p == 0) = true := by simp [t3]
        go_wp2_with fail
        go_ret
        exact ⟨false, rfl, rfl, fun h => by cases h⟩
      by_cases t4 : p > 9223372036854775807
      · have t1 : (l == 0) = false := by simp [t1]
        have t3 : (p == 0) = false := by simp [t3]
        go_wp2_with fail
        go_ret
        exact ⟨false, rfl, rfl, fun h => by cases h⟩
      have l0 : 0 < l := by omega
      have p0 : 0 < p := by omega
      have t1 : (l == 0) = false := by simp [t1]
      have t3 : (p == 0) = false := by simp [t3]
      by_cases t5 : b < c
      · go_wp2_with fail
        go_ret
        exact ⟨false, rfl, rfl, fun h => by cases h⟩
      by_cases t6 : b ≥ 9223372036854775807
      · go_wp2_with fail
        go_ret
        exact ⟨false, rfl, rfl, fun h => by cases h⟩
      by_cases t7 : ns < 0
      · go_wp2_with fail
        go_ret
        exact ⟨false, rfl, rfl, fun h => by cases h⟩
      by_cases t8 : fr ≥ l
      · go_wp2_with fail
        go_ret
        exact ⟨false, rfl, rfl, fun h => by cases h⟩
      by_cases t9 : ns = 9223372036854775807 ∧ 0 < fr
      · have t9a : (ns == 9223372036854775807) = true := by simp [t9.1]
        have t9b : fr > 0 := t9.2
        clear t9
        go_wp2_with fail
        go_ret
        exact ⟨false, rfl, rfl, fun h => by cases h⟩
      have PRE : Hid (¬ (ns = 9223372036854775807 ∧ 0 < fr) → (0 : Int).toNat * l.toNat + (b.toNat + 1) * p.toNat ≤ 9223372036854775807 * l.toNat → ∀ i, i < k + 1 → FitAt (0 : Int) c (L i) (P i) (B i) (NS i) (FR i)) := by
        intro u1 u2 i hi
        rcases Nat.lt_or_ge i k with h | h
        · exact HF.out i h
        · have e : i = k := by omega
          subst e
          rw [EL.out, EP.out, EB.out, ES.out, EF.out]
          exact ⟨l0, by omega, p0, by omega, by omega, by omega, by omega, by omega, u1, u2⟩
      have hsum : Hid ((b + 1).toNat = b.toNat + 1) := by unfold Hid; omega
      have lb : l.toNat ≤ 9223372036854775808 := by omega
      have B1 := hi_lt (x := (0 : Int).toNat) (y := l.toNat) (by omega) lb
      have B2 := hi_lt (x := (b + 1).toNat) (y := p.toNat) (by omega) (by omega)
      have B3 := hi_lt (x := 9223372036854775807) (y := l.toNat) (by omega) lb
      have SL := hide (sum_le ((0 : Int).toNat * l.toNat) ((b + 1).toNat * p.toNat) (9223372036854775807 * l.toNat))
      have n1' := hiv_nn ((0 : Int).toNat * l.toNat)
      have n2' := hiv_nn ((b + 1).toNat * p.toNat)
      have n3' := hiv_nn (9223372036854775807 * l.toNat)
      have m1' := lov_nn ((0 : Int).toNat * l.toNat)
      have m2' := lov_nn ((b + 1).toNat * p.toNat)
      have m3' := lov_nn (9223372036854775807 * l.toNat)
      have q1' := lov_lt ((0 : Int).toNat * l.toNat)
      have q2' := lov_lt ((b + 1).toNat * p.toNat)
      have q3' := lov_lt (9223372036854775807 * l.toNat)
      have z1 := hilo ((0 : Int).toNat * l.toNat)
      have z2 := hilo ((b + 1).toNat * p.toNat)
      generalize g1 : hiv ((0 : Int).toNat * l.toNat) = h1 at *
      generalize g2 : hiv ((b + 1).toNat * p.toNat) = h2 at *
      generalize g3 : hiv (9223372036854775807 * l.toNat) = h3 at *
      generalize g4 : lov ((0 : Int).toNat * l.toNat) = l1 at *
      generalize g5 : lov ((b + 1).toNat * p.toNat) = l2 at *
      generalize g6 : lov (9223372036854775807 * l.toNat) = l3 at *
      have G1 := hide g1
      have G2 := hide g2
      have G3 := hide g3
      have G4 := hide g4
      have G5 := hide g5
      have G6 := hide g6
      have Z1 := hide z1
      have Z2 := hide z2
      clear g1 g2 g3 g4 g5 g6 z1 z2
      have N9 : Hid (¬ (ns = 9223372036854775807 ∧ 0 < fr)) := t9
      have T9 : (ns == 9223372036854775807) = false ∨ ((ns == 9223372036854775807) = true ∧ ¬ fr > 0) := by
        by_cases e : ns = 9223372036854775807
        · exact .inr ⟨by simp [e], fun h => t9 ⟨e, h⟩⟩
        · exact .inl (by simp [e])
      clear t9 HF EL EP EB ES EF
      by_cases hcar : l1 + l2 < 18446744073709551616
      · have nl : ¬ l1 + l2 < l1 := by omega
        rcases T9 with t9 | ⟨t9, t9'⟩
        · by_cases u1 : h1 + h2 > h3
          · clear SL Z1 Z2 N9
            go_wp2_with fail
            refine (mul128I (0 : Int) l (by omega) (by omega) bl0 bl1 _).mono ?_
            rintro e w1 ⟨rfl, rfl⟩
            rw [G1.out, G4.out]
            go_wp2_with fail
            refine (mul128I (b + 1) p (by omega) (by omega) bp0 bp1 _).mono ?_
            rintro e w1 ⟨rfl, rfl⟩
            rw [G2.out, G5.out]
            go_wp2_with fail
            refine (mul128I 9223372036854775807 l (by omega) (by omega) bl0 bl1 _).mono ?_
            rintro e w1 ⟨rfl, rfl⟩
            rw [show (9223372036854775807 : Int).toNat = 9223372036854775807 from rfl, G3.out, G6.out]
            go_wp2_with fail
            go_ret
            exact ⟨false, rfl, rfl, fun h => by cases h⟩
          · by_cases u2 : h1 + h2 = h3
            · have u2' : (h1 + h2 == h3) = true := by simp [u2]
              by_cases u3 : l1 + l2 > l3
              · clear SL Z1 Z2 N9 u2
                go_wp2_with fail
                refine (mul128I (0 : Int) l (by omega) (by omega) bl0 bl1 _).mono ?_
                rintro e w1 ⟨rfl, rfl⟩
                rw [G1.out, G4.out]
                go_wp2_with fail
                refine (mul128I (b + 1) p (by omega) (by omega) bp0 bp1 _).mono ?_
                rintro e w1 ⟨rfl, rfl⟩
                rw [G2.out, G5.out]
                go_wp2_with fail
                refine (mul128I 9223372036854775807 l (by omega) (by omega) bl0 bl1 _).mono ?_
                rintro e w1 ⟨rfl, rfl⟩
                rw [show (9223372036854775807 : Int).toNat = 9223372036854775807 from rfl, G3.out, G6.out]
                go_wp2_with fail
                go_ret
                exact ⟨false, rfl, rfl, fun h => by cases h⟩
              · have OKK : Hid ((0 : Int).toNat * l.toNat + (b + 1).toNat * p.toNat ≤ 9223372036854775807 * l.toNat) := SL.out (l1 + l2) (h1 + h2) (by have := Z1.out; have := Z2.out; omega) (by omega) (by omega) (by omega)
                clear SL Z1 Z2 u2
                go_wp2_with fail
                refine (mul128I (0 : Int) l (by omega) (by omega) bl0 bl1 _).mono ?_
                rintro e w1 ⟨rfl, rfl⟩
                rw [G1.out, G4.out]
                go_wp2_with fail
                refine (mul128I (b + 1) p (by omega) (by omega) bp0 bp1 _).mono ?_
                rintro e w1 ⟨rfl, rfl⟩
                rw [G2.out, G5.out]
                go_wp2_with fail
                refine (mul128I 9223372036854775807 l (by omega) (by omega) bl0 bl1 _).mono ?_
                rintro e w1 ⟨rfl, rfl⟩
                rw [show (9223372036854775807 : Int).toNat = 9223372036854775807 from rfl, G3.out, G6.out]
                go_wp2_with fail
                go_round
                case rel => exact ⟨k + 1, by omega, by go_num, PRE.out N9.out (by rw [← hsum.out]; exact OKK.out)⟩
                case measure => simp [intOf]; omega
            · have u2' : (h1 + h2 == h3) = false := by simp [u2]
              have OKK : Hid ((0 : Int).toNat * l.toNat + (b + 1).toNat * p.toNat ≤ 9223372036854775807 * l.toNat) := SL.out (l1 + l2) (h1 + h2) (by have := Z1.out; have := Z2.out; omega) (by omega) (by omega) (by omega)
              clear SL Z1 Z2 u2
              go_wp2_with fail
              refine (mul128I (0 : Int) l (by omega) (by omega) bl0 bl1 _).mono ?_
              rintro e w1 ⟨rfl, rfl⟩
              rw [G1.out, G4.out]
              go_wp2_with fail
              refine (mul128I (b + 1) p (by omega) (by omega) bp0 bp1 _).mono ?_
              rintro e w1 ⟨rfl, rfl⟩
              rw [G2.out, G5.out]
              go_wp2_with fail
              refine (mul128I 9223372036854775807 l (by omega) (by omega) bl0 bl1 _).mono ?_
              rintro e w1 ⟨rfl, rfl⟩
              rw [show (9223372036854775807 : Int).toNat = 9223372036854775807 from rfl, G3.out, G6.out]
              go_wp2_with fail
              go_round
              case rel => exact ⟨k + 1, by omega, by go_num, PRE.out N9.out (by rw [← hsum.out]; exact OKK.out)⟩
              case measure => simp [intOf]; omega
        · by_cases u1 : h1 + h2 > h3
          · clear SL Z1 Z2 N9
            go_wp2_with fail
            refine (mul128I (0 : Int) l (by omega) (by omega) bl0 bl1 _).mono ?_
            rintro e w1 ⟨rfl, rfl⟩
            rw [G1.out, G4.out]
            go_wp2_with fail
            refine (mul128I (b + 1) p (by omega) (by omega) bp0 bp1 _).mono ?_
            rintro e w1 ⟨rfl, rfl⟩
            rw [G2.out, G5.out]
            go_wp2_with fail
            refine (mul128I 9223372036854775807 l (by omega) (by omega) bl0 bl1 _).mono ?_
            rintro e w1 ⟨rfl, rfl⟩
            rw [show (9223372036854775807 : Int).toNat = 9223372036854775807 from rfl, G3.out, G6.out]
            go_wp2_with fail
            go_ret
            exact ⟨false, rfl, rfl, fun h => by cases h⟩
          · by_cases u2 : h1 + h2 = h3
            · have u2' : (h1 + h2 == h3) = true := by simp [u2]
              by_cases u3 : l1 + l2 > l3
              · clear SL Z1 Z2 N9 u2
                go_wp2_with fail
                refine (mul128I (0 : Int) l (by omega) (by omega) bl0 bl1 _).mono ?_
                rintro e w1 ⟨rfl, rfl⟩
                rw [G1.out, G4.out]
                go_wp2_with fail
                refine (mul128I (b + 1) p (by omega) (by omega) bp0 bp1 _).mono ?_
                rintro e w1 ⟨rfl, rfl⟩
                rw [G2.out, G5.out]
                go_wp2_with fail
                refine (mul128I 9223372036854775807 l (by omega) (by omega) bl0 bl1 _).mono ?_
                rintro e w1 ⟨rfl, rfl⟩
                rw [show (9223372036854775807 : Int).toNat = 9223372036854775807 from rfl, G3.out, G6.out]
                go_wp2_with fail
                go_ret
                exact ⟨false, rfl, rfl, fun h => by cases h⟩
              · have OKK : Hid ((0 : Int).toNat * l.toNat + (b + 1).toNat * p.toNat ≤ 9223372036854775807 * l.toNat) := SL.out (l1 + l2) (h1 + h2) (by have := Z1.out; have := Z2.out; omega) (by omega) (by omega) (by omega)
                clear SL Z1 Z2 u2
                go_wp2_with fail
                refine (mul128I (0 : Int) l (by omega) (by omega) bl0 bl1 _).mono ?_
                rintro e w1 ⟨rfl, rfl⟩
                rw [G1.out, G4.out]
                go_wp2_with fail
                refine (mul128I (b + 1) p (by omega) (by omega) bp0 bp1 _).mono ?_
                rintro e w1 ⟨rfl, rfl⟩
                rw [G2.out, G5.out]
                go_wp2_with fail
                refine (mul128I 9223372036854775807 l (by omega) (by omega) bl0 bl1 _).mono ?_
                rintro e w1 ⟨rfl, rfl⟩
                rw [show (9223372036854775807 : Int).toNat = 9223372036854775807 from rfl, G3.out, G6.out]
                go_wp2_with fail
                go_round
                case rel => exact ⟨k + 1, by omega, by go_num, PRE.out N9.out (by rw [← hsum.out]; exact OKK.out)⟩
                case measure => simp [intOf]; omega
            · have u2' : (h1 + h2 == h3) = false := by simp [u2]
              have OKK : Hid ((0 : Int).toNat * l.toNat + (b + 1).toNat * p.toNat ≤ 9223372036854775807 * l.toNat) := SL.out (l1 + l2) (h1 + h2) (by have := Z1.out; have := Z2.out; omega) (by omega) (by omega) (by omega)
              clear SL Z1 Z2 u2
              go_wp2_with fail
              refine (mul128I (0 : Int) l (by omega) (by omega) bl0 bl1 _).mono ?_
              rintro e w1 ⟨rfl, rfl⟩
              rw [G1.out, G4.out]
              go_wp2_with fail
              refine (mul128I (b + 1) p (by omega) (by omega) bp0 bp1 _).mono ?_
              rintro e w1 ⟨rfl, rfl⟩
              rw [G2.out, G5.out]
              go_wp2_with fail
              refine (mul128I 9223372036854775807 l (by omega) (by omega) bl0 bl1 _).mono ?_
              rintro e w1 ⟨rfl, rfl⟩
              rw [show (9223372036854775807 : Int).toNat = 9223372036854775807 from rfl, G3.out, G6.out]
              go_wp2_with fail
              go_round
              case rel => exact ⟨k + 1, by omega, by go_num, PRE.out N9.out (by rw [← hsum.out]; exact OKK.out)⟩
              case measure => simp [intOf]; omega
      · obtain ⟨lo, hlo, hl⟩ : ∃ lo, lo = l1 + l2 - 18446744073709551616 ∧ IntKind.u64.wrap (l1 + l2) = lo := ⟨_, rfl, by rw [IntKind.wrap_u64]; omega⟩
        have nl : lo < l1 := by omega
        have lo0 : 0 ≤ lo := by omega
        have lo1 : lo < 18446744073709551616 := by omega
        have HLO := hide hlo
        clear hlo
        rcases T9 with t9 | ⟨t9, t9'⟩
        · by_cases u1 : h1 + h2 + 1 > h3
          · clear SL Z1 Z2 N9
            go_wp2_with fail
            refine (mul128I (0 : Int) l (by omega) (by omega) bl0 bl1 _).mono ?_
            rintro e w1 ⟨rfl, rfl⟩
            rw [G1.out, G4.out]
            go_wp2_with fail
            refine (mul128I (b + 1) p (by omega) (by omega) bp0 bp1 _).mono ?_
            rintro e w1 ⟨rfl, rfl⟩
            rw [G2.out, G5.out]
            go_wp2_with fail
            refine (mul128I 9223372036854775807 l (by omega) (by omega) bl0 bl1 _).mono ?_
            rintro e w1 ⟨rfl, rfl⟩
            rw [show (9223372036854775807 : Int).toNat = 9223372036854775807 from rfl, G3.out, G6.out]
            go_wp2_with fail
            go_ret
            exact ⟨false, rfl, rfl, fun h => by cases h⟩
          · by_cases u2 : h1 + h2 + 1 = h3
            · have u2' : (h1 + h2 + 1 == h3) = true := by simp [u2]
              by_cases u3 : lo > l3
              · clear SL Z1 Z2 N9 u2
                go_wp2_with fail
                refine (mul128I (0 : Int) l (by omega) (by omega) bl0 bl1 _).mono ?_
                rintro e w1 ⟨rfl, rfl⟩
                rw [G1.out, G4.out]
                go_wp2_with fail
                refine (mul128I (b + 1) p (by omega) (by omega) bp0 bp1 _).mono ?_
                rintro e w1 ⟨rfl, rfl⟩
                rw [G2.out, G5.out]
                go_wp2_with fail
                refine (mul128I 9223372036854775807 l (by omega) (by omega) bl0 bl1 _).mono ?_
                rintro e w1 ⟨rfl, rfl⟩
                rw [show (9223372036854775807 : Int).toNat = 9223372036854775807 from rfl, G3.out, G6.out]
                go_wp2_with fail
                go_ret
                exact ⟨false, rfl, rfl, fun h => by cases h⟩
              · have OKK : Hid ((0 : Int).toNat * l.toNat + (b + 1).toNat * p.toNat ≤ 9223372036854775807 * l.toNat) := SL.out (lo) (h1 + h2 + 1) (by have := Z1.out; have := Z2.out; have := HLO.out; omega) (by omega) (by omega) (by omega)
                clear SL Z1 Z2 u2
                go_wp2_with fail
                refine (mul128I (0 : Int) l (by omega) (by omega) bl0 bl1 _).mono ?_
                rintro e w1 ⟨rfl, rfl⟩
                rw [G1.out, G4.out]
                go_wp2_with fail
                refine (mul128I (b + 1) p (by omega) (by omega) bp0 bp1 _).mono ?_
                rintro e w1 ⟨rfl, rfl⟩
                rw [G2.out, G5.out]
                go_wp2_with fail
                refine (mul128I 9223372036854775807 l (by omega) (by omega) bl0 bl1 _).mono ?_
                rintro e w1 ⟨rfl, rfl⟩
                rw [show (9223372036854775807 : Int).toNat = 9223372036854775807 from rfl, G3.out, G6.out]
                go_wp2_with fail
                go_round
                case rel => exact ⟨k + 1, by omega, by go_num, PRE.out N9.out (by rw [← hsum.out]; exact OKK.out)⟩
                case measure => simp [intOf]; omega
            · have u2' : (h1 + h2 + 1 == h3) = false := by simp [u2]
              have OKK : Hid ((0 : Int).toNat * l.toNat + (b + 1).toNat * p.toNat ≤ 9223372036854775807 * l.toNat) := SL.out (lo) (h1 + h2 + 1) (by have := Z1.out; have := Z2.out; have := HLO.out; omega) (by omega) (by omega) (by omega)
              clear SL Z1 Z2 u2
              go_wp2_with fail
              refine (mul128I (0 : Int) l (by omega) (by omega) bl0 bl1 _).mono ?_
              rintro e w1 ⟨rfl, rfl⟩
              rw [G1.out, G4.out]
              go_wp2_with fail
              refine (mul128I (b + 1) p (by omega) (by omega) bp0 bp1 _).mono ?_
              rintro e w1 ⟨rfl, rfl⟩
              rw [G2.out, G5.out]
              go_wp2_with fail
              refine (mul128I 9223372036854775807 l (by omega) (by omega) bl0 bl1 _).mono ?_
              rintro e w1 ⟨rfl, rfl⟩
              rw [show (9223372036854775807 : Int).toNat = 9223372036854775807 from rfl, G3.out, G6.out]
              go_wp2_with fail
              go_round
              case rel => exact ⟨k + 1, by omega, by go_num, PRE.out N9.out (by rw [← hsum.out]; exact OKK.out)⟩
              case measure => simp [intOf]; omega
        · by_cases u1 : h1 + h2 + 1 > h3
          · clear SL Z1 Z2 N9
            go_wp2_with fail
            refine (mul128I (0 : Int) l (by omega) (by omega) bl0 bl1 _).mono ?_
            rintro e w1 ⟨rfl, rfl⟩
            rw [G1.out, G4.out]
            go_wp2_with fail
            refine (mul128I (b + 1) p (by omega) (by omega) bp0 bp1 _).mono ?_
            rintro e w1 ⟨rfl, rfl⟩
            rw [G2.out, G5.out]
            go_wp2_with fail
            refine (mul128I 9223372036854775807 l (by omega) (by omega) bl0 bl1 _).mono ?_
            rintro e w1 ⟨rfl, rfl⟩
            rw [show (9223372036854775807 : Int).toNat = 9223372036854775807 from rfl, G3.out, G6.out]
            go_wp2_with fail
            go_ret
            exact ⟨false, rfl, rfl, fun h => by cases h⟩
          · by_cases u2 : h1 + h2 + 1 = h3
            · have u2' : (h1 + h2 + 1 == h3) = true := by simp [u2]
              by_cases u3 : lo > l3
              · clear SL Z1 Z2 N9 u2
                go_wp2_with fail
                refine (mul128I (0 : Int) l (by omega) (by omega) bl0 bl1 _).mono ?_
                rintro e w1 ⟨rfl, rfl⟩
                rw [G1.out, G4.out]
                go_wp2_with fail
                refine (mul128I (b + 1) p (by omega) (by omega) bp0 bp1 _).mono ?_
                rintro e w1 ⟨rfl, rfl⟩
                rw [G2.out, G5.out]
                go_wp2_with fail
                refine (mul128I 9223372036854775807 l (by omega) (by omega) bl0 bl1 _).mono ?_
                rintro e w1 ⟨rfl, rfl⟩
                rw [show (9223372036854775807 : Int).toNat = 9223372036854775807 from rfl, G3.out, G6.out]
                go_wp2_with fail
                go_ret
                exact ⟨false, rfl, rfl, fun h => by cases h⟩
              · have OKK : Hid ((0 : Int).toNat * l.toNat + (b + 1).toNat * p.toNat ≤ 9223372036854775807 * l.toNat) := SL.out (lo) (h1 + h2 + 1) (by have := Z1.out; have := Z2.out; have := HLO.out; omega) (by omega) (by omega) (by omega)
                clear SL Z1 Z2 u2
                go_wp2_with fail
                refine (mul128I (0 : Int) l (by omega) (by omega) bl0 bl1 _).mono ?_
                rintro e w1 ⟨rfl, rfl⟩
                rw [G1.out, G4.out]
                go_wp2_with fail
                refine (mul128I (b + 1) p (by omega) (by omega) bp0 bp1 _).mono ?_
                rintro e w1 ⟨rfl, rfl⟩
                rw [G2.out, G5.out]
                go_wp2_with fail
                refine (mul128I 9223372036854775807 l (by omega) (by omega) bl0 bl1 _).mono ?_
                rintro e w1 ⟨rfl, rfl⟩
                rw [show (9223372036854775807 : Int).toNat = 9223372036854775807 from rfl, G3.out, G6.out]
                go_wp2_with fail
                go_round
                case rel => exact ⟨k + 1, by omega, by go_num, PRE.out N9.out (by rw [← hsum.out]; exact OKK.out)⟩
                case measure => simp [intOf]; omega
            · have u2' : (h1 + h2 + 1 == h3) = false := by simp [u2]
              have OKK : Hid ((0 : Int).toNat * l.toNat + (b + 1).toNat * p.toNat ≤ 9223372036854775807 * l.toNat) := SL.out (lo) (h1 + h2 + 1) (by have := Z1.out; have := Z2.out; have := HLO.out; omega) (by omega) (by omega) (by omega)
              clear SL Z1 Z2 u2
              go_wp2_with fail
              refine (mul128I (0 : Int) l (by omega) (by omega) bl0 bl1 _).mono ?_
              rintro e w1 ⟨rfl, rfl⟩
              rw [G1.out, G4.out]
              go_wp2_with fail
              refine (mul128I (b + 1) p (by omega) (by omega) bp0 bp1 _).mono ?_
              rintro e w1 ⟨rfl, rfl⟩
              rw [G2.out, G5.out]
              go_wp2_with fail
              refine (mul128I 9223372036854775807 l (by omega) (by omega) bl0 bl1 _).mono ?_
              rintro e w1 ⟨rfl, rfl⟩
              rw [show (9223372036854775807 : Int).toNat = 9223372036854775807 from rfl, G3.out, G6.out]
              go_wp2_with fail
              go_round
              case rel => exact ⟨k + 1, by omega, by go_num, PRE.out N9.out (by rw [← hsum.out]; exact OKK.out)⟩
              case measure => simp [intOf]; omega
    · have i1 : ¬ (k : Int) < (n : Int) := by omega
      have e : k = n := by omega
      subst e
      go_wp2_with fail
      go_ret
      exact ⟨true, rfl, rfl, fun _ => ⟨hc, HF.out⟩⟩
end Go.Proofs.Qxb6612665a.W
