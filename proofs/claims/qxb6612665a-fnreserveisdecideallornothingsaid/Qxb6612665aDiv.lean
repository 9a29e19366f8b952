import Derived.Test.Qxb6612665aBits
import Derived.Test.Qxb6612665aLen
import Derived.Test.Qxb6612665aDivPlain
import Derived.Deep.QuietTactic
import Derived.BigQuiet
import Derived.Deep.DeepCutAuto
import Derived.Deep.CutBlock
namespace Go.Proofs.Qxb6612665a.W
open Go.RowKit

set_option linter.unusedVariables false
theorem hide {p : Prop} (h : p) : Hid p := h
theorem lz64 (y s : Nat) (hy : y < 18446744073709551616) (hs : 64 - Lib.bitLen y = s) (w : World) :
    Calls Try.prog 37 #[.int .u64 y] w fun e w' => e = .returned (.int .i64 s) ∧ w = w' := by
  have hl := Lib.bitLen_le y 64 (by omega) (by omega)
  refine (bits_LeadingZeros64 (y : Int) w (by omega) (by omega)).mono ?_
  rintro e w' ⟨rfl, rfl⟩
  refine ⟨?_, rfl⟩
  rw [Int.toNat_natCast, show (64 : Int) - (Lib.bitLen y : Int) = (s : Int) from by omega]

theorem kn_int {y1 y0 Y U u1 : Nat} {q r : Int} (hr : 0 ≤ r) (hq : 1 ≤ q) (h : Kn y1 y0 Y U u1 (q.toNat - 1) (r.toNat + y1)) : Kn y1 y0 Y U u1 (q - 1).toNat (r + y1).toNat := by
  rw [show (q - 1).toNat = q.toNat - 1 by omega, show (r + (y1 : Int)).toNat = r.toNat + y1 by omega]
  exact h
theorem kn_val {q : Int} {a b : Nat} (h1 : a = b) (h2 : q.toNat = a) (h0 : 0 ≤ q) : Value.int .u64 q = .int .u64 (b : Int) := by
  rw [show q = (b : Int) by omega]

set_option maxRecDepth 100000 in
set_option maxHeartbeats 2000000 in
/-- The walk, every number under a letter of its own; what the letters are: the caller's. -/
theorem div_core (hi lo y s Y H U Z y1 y0 u1 u0 q00 r00 Q1 R1 q01 r01 Q0 QQ RR : Nat) (hs : 64 - Lib.bitLen y = s) (s1 : 1 ≤ s) (s2 : s ≤ 63) (hhi : hi < y) (h0 : 0 < hi) (hlo : lo < 18446744073709551616) (hy : y < 9223372036854775808)
    (hY : 9223372036854775808 ≤ Y) (hY2 : Y < 18446744073709551616) (hH : H < 18446744073709551616) (hU : U < 18446744073709551616) (hZ : Z < 18446744073709551616)
    (hy1 : 2147483648 ≤ y1) (hy1' : y1 < 4294967296) (hy0 : y0 < 4294967296) (hu1 : u1 < 4294967296) (hu0 : u0 < 4294967296)
    (e1 : IntKind.u64.wrap ((y : Int) * 2 ^ s) = (Y : Int)) (e2 : IntKind.u64.wrap ((hi : Int) * 2 ^ s) = (H : Int))
    (e3 : bits .or .u64 (H : Int) ((lo : Int) / 2 ^ (64 - s)) = (U : Int)) (e4 : IntKind.u64.wrap ((lo : Int) * 2 ^ s) = (Z : Int))
    (e5 : bits .and .u64 (Y : Int) 4294967295 = (y0 : Int)) (e6 : (Y : Int) / 4294967296 = (y1 : Int)) (e7 : (Z : Int) / 4294967296 = (u1 : Int)) (e8 : bits .and .u64 (Z : Int) 4294967295 = (u0 : Int))
    (e9 : IntKind.u64.wrap ((U : Int) / (y1 : Int)) = (q00 : Int)) (e10 : IntKind.u64.wrap ((U : Int) - IntKind.u64.wrap ((q00 : Int) * (y1 : Int))) = (r00 : Int)) (hq00 : q00 ≤ 4294967297) (hr00 : r00 < 4294967296)
    (i1 : KnIn y1 y0 Y U u1) (k1 : Kn y1 y0 Y U u1 q00 r00) (hQ1 : (U * 4294967296 + u1) / Y = Q1)
    (hR1 : R1 < 18446744073709551616) (f1 : IntKind.u64.wrap (IntKind.u64.wrap (IntKind.u64.wrap ((U : Int) * 4294967296) + (u1 : Int)) - IntKind.u64.wrap ((Q1 : Int) * (Y : Int))) = (R1 : Int))
    (f2 : IntKind.u64.wrap ((R1 : Int) / (y1 : Int)) = (q01 : Int)) (f3 : IntKind.u64.wrap ((R1 : Int) - IntKind.u64.wrap ((q01 : Int) * (y1 : Int))) = (r01 : Int)) (hq01 : q01 ≤ 4294967297) (hr01 : r01 < 4294967296)
    (i2 : KnIn y1 y0 Y R1 u0) (k2 : Kn y1 y0 Y R1 u0 q01 r01) (hQ0 : (R1 * 4294967296 + u0) / Y = Q0)
    (g1 : IntKind.u64.wrap (IntKind.u64.wrap ((Q1 : Int) * 4294967296) + (Q0 : Int)) = (QQ : Int))
    (hRR : RR < 18446744073709551616) (g2 : IntKind.u64.wrap (IntKind.u64.wrap (IntKind.u64.wrap ((R1 : Int) * 4294967296) + (u0 : Int)) - IntKind.u64.wrap ((Q0 : Int) * (Y : Int))) = (RR : Int)) (w : World) :
    Calls Try.prog 31 #[.int .u64 hi, .int .u64 lo, .int .u64 y] w fun e w' => e = .returned (.tuple #[.int .u64 (QQ : Int), .int .u64 ((RR : Int) / 2 ^ s)]) ∧ w = w' := by
  have HS := hide hs
  have I1 := hide i1
  have K1 := hide k1
  have HQ1 := hide hQ1
  have I2 := hide i2
  have K2 := hide k2
  have HQ0 := hide hQ0
  clear hs i1 k1 hQ1 i2 k2 hQ0
  have n0 : ((y : Int) == 0) = false := by simp; omega
  have n1 : ((hi : Int) == 0) = false := by simp; omega
  go_enter Try.func31, Try.ntmps31
  go_wp2_with fail
  refine (lz64 y s (by omega) HS.out _).mono ?_
  rintro e w' ⟨rfl, rfl⟩
  go_upto_block 0 with fail
  clear e1 e2 e3 e4 e5 e6 e7 e8 e9 e10
  go_cut [15, 16] (fun q r wx => q = .int .u64 (Q1 : Int) ∧ wx = w)
  case first =>
    go_wp2_with fail
    go_loop [15, 16] (fun a b => ∃ q r : Int, a = .int .u64 q ∧ b = .int .u64 r ∧ 0 ≤ q ∧ q ≤ 4294967297 ∧ 0 ≤ r ∧ r < 4294967296 ∧ Hid (Kn y1 y0 Y U u1 q.toNat r.toNat)) (fun a _ => (intOf a).toNat)
    case atStart => exact ⟨q00, r00, rfl, rfl, by omega, by omega, by omega, by omega, K1⟩
    case round =>
      obtain ⟨q, r, rfl, rfl, hq0, hq, hr0, hr, HK⟩ := hrel
      by_cases hbig : 4294967296 ≤ q
      · have HN := hide (kn_int hr0 (by omega) (HK.out.big I1.out (by omega)))
        by_cases hbr : 4294967296 ≤ r + y1
        · go_wp2_with fail
          go_meet
          case rel => exact ⟨kn_val HQ1.out (HN.out.leave I1.out (by omega) (by omega)) (by omega), rfl⟩
        · go_wp2_with fail
          go_round
          case rel => exact ⟨q - 1, r + y1, rfl, rfl, by omega, by omega, by omega, by omega, HN⟩
          case measure => simp [intOf]; omega
      · obtain ⟨P, hP⟩ : ∃ P, q.toNat * y0 = P := ⟨_, rfl⟩
        have hPlt : P < 18446744073709551616 := by
          have : q.toNat * y0 ≤ 4294967295 * 4294967295 := Nat.mul_le_mul (by omega) (by omega)
          omega
        obtain ⟨PI, hPI⟩ : ∃ PI : Int, PI = (P : Int) := ⟨_, rfl⟩
        have p1 : IntKind.u64.wrap (q * (y0 : Int)) = PI := by
          rw [show q * (y0 : Int) = (P : Int) from by rw [← hP, Int.natCast_mul, Int.toNat_of_nonneg hq0], wrapN P hPlt, hPI]
        have hp0 : 0 ≤ PI := by omega
        have HP := hide hP
        have HI := hide hPI
        clear hP hPI
        by_cases ht : 4294967296 * r + u1 < PI
        · have hq1 : 1 ≤ q := by
            rcases Int.lt_or_le 0 q with e | e
            · omega
            · have e0 : q.toNat = 0 := by omega
              have := HP.out; have := HI.out; rw [e0] at *; simp at *; omega
          have HN := hide (kn_int hr0 hq1 (HK.out.more I1.out (by rw [HP.out]; have := HI.out; omega)))
          clear hPlt
          by_cases hbr : 4294967296 ≤ r + y1
          · go_wp2_with fail
            go_meet
            case rel => exact ⟨kn_val HQ1.out (HN.out.leave I1.out (by omega) (by omega)) (by omega), rfl⟩
          · go_wp2_with fail
            go_round
            case rel => exact ⟨q - 1, r + y1, rfl, rfl, by omega, by omega, by omega, by omega, HN⟩
            case measure => simp [intOf]; omega
        · have HN := hide (HK.out.stop I1.out (by rw [HP.out]; have := HI.out; omega))
          clear hPlt
          go_wp2_with fail
          go_meet
          case rel => exact ⟨kn_val HQ1.out HN.out (by omega), rfl⟩
  case rest =>
    obtain ⟨rfl, rfl⟩ := hcut
    go_upto_block 2 with fail
    clear f1 f2 f3
    go_cut [18, 16] (fun q r wx => q = .int .u64 (Q0 : Int) ∧ wx = wc)
    case first =>
      go_wp2_with fail
      go_loop [18, 16] (fun a b => ∃ q r : Int, a = .int .u64 q ∧ b = .int .u64 r ∧ 0 ≤ q ∧ q ≤ 4294967297 ∧ 0 ≤ r ∧ r < 4294967296 ∧ Hid (Kn y1 y0 Y R1 u0 q.toNat r.toNat)) (fun a _ => (intOf a).toNat)
      case atStart => exact ⟨q01, r01, rfl, rfl, by omega, by omega, by omega, by omega, K2⟩
      case round =>
        obtain ⟨q, r, rfl, rfl, hq0, hq, hr0, hr, HK⟩ := hrel
        by_cases hbig : 4294967296 ≤ q
        · have HN := hide (kn_int hr0 (by omega) (HK.out.big I2.out (by omega)))
          by_cases hbr : 4294967296 ≤ r + y1
          · go_wp2_with fail
            go_meet
            case rel => exact ⟨kn_val HQ0.out (HN.out.leave I2.out (by omega) (by omega)) (by omega), rfl⟩
          · go_wp2_with fail
            go_round
            case rel => exact ⟨q - 1, r + y1, rfl, rfl, by omega, by omega, by omega, by omega, HN⟩
            case measure => simp [intOf]; omega
        · obtain ⟨P, hP⟩ : ∃ P, q.toNat * y0 = P := ⟨_, rfl⟩
          have hPlt : P < 18446744073709551616 := by
            have : q.toNat * y0 ≤ 4294967295 * 4294967295 := Nat.mul_le_mul (by omega) (by omega)
            omega
          obtain ⟨PI, hPI⟩ : ∃ PI : Int, PI = (P : Int) := ⟨_, rfl⟩
          have p1 : IntKind.u64.wrap (q * (y0 : Int)) = PI := by
            rw [show q * (y0 : Int) = (P : Int) from by rw [← hP, Int.natCast_mul, Int.toNat_of_nonneg hq0], wrapN P hPlt, hPI]
          have hp0 : 0 ≤ PI := by omega
          have HP := hide hP
          have HI := hide hPI
          clear hP hPI
          by_cases ht : 4294967296 * r + u0 < PI
          · have hq1 : 1 ≤ q := by
              rcases Int.lt_or_le 0 q with e | e
              · omega
              · have e0 : q.toNat = 0 := by omega
                have := HP.out; have := HI.out; rw [e0] at *; simp at *; omega
            have HN := hide (kn_int hr0 hq1 (HK.out.more I2.out (by rw [HP.out]; have := HI.out; omega)))
            clear hPlt
            by_cases hbr : 4294967296 ≤ r + y1
            · go_wp2_with fail
              go_meet
              case rel => exact ⟨kn_val HQ0.out (HN.out.leave I2.out (by omega) (by omega)) (by omega), rfl⟩
            · go_wp2_with fail
              go_round
              case rel => exact ⟨q - 1, r + y1, rfl, rfl, by omega, by omega, by omega, by omega, HN⟩
              case measure => simp [intOf]; omega
          · have HN := hide (HK.out.stop I2.out (by rw [HP.out]; have := HI.out; omega))
            clear hPlt
            go_wp2_with fail
            go_meet
            case rel => exact ⟨kn_val HQ0.out HN.out (by omega), rfl⟩
    case rest =>
      obtain ⟨rfl, rfl⟩ := hcut
      go_wp2_with fail
      go_ret2
      exact ⟨rfl, rfl⟩

theorem wrap_nat (a b : Nat) (h : a % 18446744073709551616 = b) : IntKind.u64.wrap (a : Int) = (b : Int) := by
  rw [wrapM, h]
theorem wrap_pow (a s b : Nat) (h : a * 2 ^ s % 18446744073709551616 = b) : IntKind.u64.wrap ((a : Int) * 2 ^ s) = (b : Int) := by
  have e : (a : Int) * 2 ^ s = ((a * 2 ^ s : Nat) : Int) := by rw [Int.natCast_mul, Int.natCast_pow]; rfl
  rw [e, wrapM, h]
/-- what is left of a number below the modulus, however it wrapped on the way -/
theorem wrap_left (A b Q Y R : Nat) (hR : R < 18446744073709551616) (h : A * 4294967296 + b = Q * Y + R) :
    IntKind.u64.wrap (IntKind.u64.wrap (IntKind.u64.wrap ((A : Int) * 4294967296) + (b : Int)) - IntKind.u64.wrap ((Q : Int) * (Y : Int))) = (R : Int) := by
  rw [mulN Q Y, wrapM, IntKind.wrap_u64, IntKind.wrap_u64, IntKind.wrap_u64]
  generalize Q * Y = P at *
  omega
theorem wrap_rem (U y R : Nat) (hU : U < 18446744073709551616) (h : U / y * y + R = U) : IntKind.u64.wrap ((U : Int) - IntKind.u64.wrap (((U / y : Nat) : Int) * (y : Int))) = (R : Int) := by
  rw [mulN, wrapM, IntKind.wrap_u64]
  generalize U / y * y = P at *
  omega
theorem wrap_quo (U y : Nat) (hU : U < 18446744073709551616) : IntKind.u64.wrap ((U : Int) / (y : Int)) = ((U / y : Nat) : Int) := by
  have e : (U : Int) / (y : Int) = ((U / y : Nat) : Int) := rfl
  rw [e, wrapN _ (Nat.lt_of_le_of_lt (Nat.div_le_self _ _) hU)]

theorem div_glue (hi lo y s Y H U Z y1 y0 u1 u0 q00 r00 Q1 R1 q01 r01 Q0 RR : Nat) (hs : 64 - Lib.bitLen y = s) (eY : y * 2 ^ s = Y) (eH : hi * 2 ^ s = H) (eU : hi * 2 ^ s + lo / 2 ^ (64 - s) = U) (eZ : lo * 2 ^ s % 18446744073709551616 = Z)
    (ey1 : Y / 4294967296 = y1) (ey0 : Y % 4294967296 = y0) (eu1 : Z / 4294967296 = u1) (eu0 : Z % 4294967296 = u0) (eq0 : U / y1 = q00) (er0 : U % y1 = r00)
    (eQ1 : (U * 4294967296 + u1) / Y = Q1) (eR1 : (U * 4294967296 + u1) % Y = R1) (eq1 : R1 / y1 = q01) (er1 : R1 % y1 = r01) (eQ0 : (R1 * 4294967296 + u0) / Y = Q0) (eRR : (R1 * 4294967296 + u0) % Y = RR)
    (hhi : hi < y) (h0 : 0 < hi) (hlo : lo < 18446744073709551616) (hy : y < 9223372036854775808) (w : World) :
    Calls Try.prog 31 #[.int .u64 hi, .int .u64 lo, .int .u64 y] w fun e w' => e = .returned (.tuple #[.int .u64 (((hi * 18446744073709551616 + lo) / y : Nat) : Int), .int .u64 (((hi * 18446744073709551616 + lo) % y : Nat) : Int)]) ∧ w = w' := by
  obtain ⟨s1, s2, hY, hY2⟩ := lz_span y (by omega) hy
  rw [hs] at s1 s2 hY hY2
  obtain ⟨eX, hl, hU⟩ := shifted hi lo y s s1 s2 hlo hhi
  have hp : 0 < 2 ^ s := Nat.two_pow_pos _
  have hHU : hi * 2 ^ s ≤ hi * 2 ^ s + lo / 2 ^ (64 - s) := Nat.le_add_right _ _
  have hor : H ||| (lo / 2 ^ (64 - s)) = U := by
    rw [← eH, ← eU, Nat.mul_comm, Nat.two_pow_add_eq_or_of_lt hl]
  rw [eY] at hY hY2 hU
  rw [eU] at hU hHU eX
  rw [eH] at hHU
  rw [eZ] at eX
  have hZ : Z < 18446744073709551616 := by rw [← eZ]; exact Nat.mod_lt _ (by omega)
  have hY0 : Y = y1 * 4294967296 + y0 := by rw [← ey1, ← ey0]; exact (Nat.div_add_mod' Y 4294967296).symm
  have hZ0 : Z = u1 * 4294967296 + u0 := by rw [← eu1, ← eu0]; exact (Nat.div_add_mod' Z 4294967296).symm
  have b3 : y0 < 4294967296 := by rw [← ey0]; exact Nat.mod_lt _ (by omega)
  have b5 : u0 < 4294967296 := by rw [← eu0]; exact Nat.mod_lt _ (by omega)
  have b1 : 2147483648 ≤ y1 := by omega
  have b2 : y1 < 4294967296 := by omega
  have b4 : u1 < 4294967296 := by omega
  have i1 : KnIn y1 y0 Y U u1 := ⟨hY0, b1, b3, hU, b4⟩
  obtain ⟨k1, hq00⟩ := i1.start
  rw [eq0, er0] at k1
  rw [eq0] at hq00
  have hR : R1 < Y := by rw [← eR1]; exact Nat.mod_lt _ (by omega)
  have i2 : KnIn y1 y0 Y R1 u0 := ⟨hY0, b1, b3, hR, b5⟩
  obtain ⟨k2, hq01⟩ := i2.start
  rw [eq1, er1] at k2
  rw [eq1] at hq01
  have hr00 : r00 < y1 := by rw [← er0]; exact Nat.mod_lt _ (by omega)
  have hr01 : r01 < y1 := by rw [← er1]; exact Nat.mod_lt _ (by omega)
  have hRR : RR < Y := by rw [← eRR]; exact Nat.mod_lt _ (by omega)
  have hQ1 : Q1 < 4294967296 := by rw [← eQ1, Nat.div_lt_iff_lt_mul (by omega)]; omega
  have hQ0 : Q0 < 4294967296 := by rw [← eQ0, Nat.div_lt_iff_lt_mul (by omega)]; omega
  have hlt : lo / 2 ^ (64 - s) ≤ lo := Nat.div_le_self _ _
  obtain ⟨t1, t2⟩ := two_digits U u1 u0 Y (by omega)
  obtain ⟨v1, v2⟩ := unshift (hi * 18446744073709551616 + lo) y (2 ^ s) hp
  rw [eX, eY, hZ0] at v1 v2
  rw [t1, eQ1, eR1, eQ0] at v1
  rw [t2, eR1, eRR] at v2
  have d1 : Q1 * Y + R1 = U * 4294967296 + u1 := by rw [← eQ1, ← eR1]; exact Nat.div_add_mod' _ _
  have d2 : Q0 * Y + RR = R1 * 4294967296 + u0 := by rw [← eQ0, ← eRR]; exact Nat.div_add_mod' _ _
  have eA : IntKind.u64.wrap ((U : Int) / (y1 : Int)) = (q00 : Int) := by rw [wrap_quo U y1 (by omega), eq0]
  have eB : IntKind.u64.wrap ((U : Int) - IntKind.u64.wrap ((q00 : Int) * (y1 : Int))) = (r00 : Int) := by
    have := wrap_rem U y1 r00 (by omega) (by rw [← er0]; exact Nat.div_add_mod' _ _)
    rwa [eq0] at this
  have eC : IntKind.u64.wrap ((R1 : Int) / (y1 : Int)) = (q01 : Int) := by rw [wrap_quo R1 y1 (by omega), eq1]
  have eD : IntKind.u64.wrap ((R1 : Int) - IntKind.u64.wrap ((q01 : Int) * (y1 : Int))) = (r01 : Int) := by
    have := wrap_rem R1 y1 r01 (by omega) (by rw [← er1]; exact Nat.div_add_mod' _ _)
    rwa [eq1] at this
  have e3 : bits .or .u64 (H : Int) ((lo : Int) / 2 ^ (64 - s)) = (U : Int) := by
    have e : (lo : Int) / 2 ^ (64 - s) = ((lo / 2 ^ (64 - s) : Nat) : Int) := by rw [Int.natCast_ediv, Int.natCast_pow]; rfl
    rw [e, bits_or_u64_nat H _ (by omega) (by omega), hor]
  have e5 : bits .and .u64 (Y : Int) 4294967295 = (y0 : Int) := by rw [maskN Y hY2, ey0]
  have e8 : bits .and .u64 (Z : Int) 4294967295 = (u0 : Int) := by rw [maskN Z hZ, eu0]
  have e6 : (Y : Int) / 4294967296 = (y1 : Int) := by rw [divN Y, ey1]
  have e7 : (Z : Int) / 4294967296 = (u1 : Int) := by rw [divN Z, eu1]
  have g1 : IntKind.u64.wrap (IntKind.u64.wrap ((Q1 : Int) * 4294967296) + (Q0 : Int)) = ((Q1 * 4294967296 + Q0 : Nat) : Int) := by
    rw [IntKind.wrap_u64, IntKind.wrap_u64]; omega
  have f1 := wrap_left U u1 Q1 Y R1 (by omega) d1.symm
  have g2 := wrap_left R1 u0 Q0 Y RR (by omega) d2.symm
  refine (div_core hi lo y s Y H U Z y1 y0 u1 u0 q00 r00 Q1 R1 q01 r01 Q0 (Q1 * 4294967296 + Q0) RR hs s1 s2 hhi h0 hlo hy hY hY2 (by omega) (by omega) hZ b1 b2 b3 b4 b5
    (wrap_pow y s Y (by rw [eY]; omega)) (wrap_pow hi s H (by rw [eH]; omega)) e3 (wrap_pow lo s Z eZ) e5 e6 e7 e8 eA eB hq00 (by omega) i1 k1 eQ1
    (by omega) f1 eC eD hq01 (by omega) i2 k2 eQ0 g1 (by omega) g2 w).mono ?_
  rintro e w' ⟨rfl, hw⟩
  refine ⟨?_, hw⟩
  have e2 : (RR : Int) / 2 ^ s = (((hi * 18446744073709551616 + lo) % y : Nat) : Int) := by
    rw [← v2, Int.natCast_ediv, Int.natCast_pow]; rfl
  rw [e2, v1]
theorem div_big (hi lo y : Nat) (hhi : hi < y) (h0 : 0 < hi) (hlo : lo < 18446744073709551616) (hy : y < 9223372036854775808) (w : World) :
    Calls Try.prog 31 #[.int .u64 hi, .int .u64 lo, .int .u64 y] w fun e w' => e = .returned (.tuple #[.int .u64 (((hi * 18446744073709551616 + lo) / y : Nat) : Int), .int .u64 (((hi * 18446744073709551616 + lo) % y : Nat) : Int)]) ∧ w = w' :=
  div_glue hi lo y _ _ _ _ _ _ _ _ _ _ _ _ _ _ _ _ _ rfl rfl rfl rfl rfl rfl rfl rfl rfl rfl rfl rfl rfl rfl rfl rfl rfl hhi h0 hlo hy w

set_option maxHeartbeats 1000000 in
theorem div_small (lo y : Nat) (h0 : 0 < y) (hlo : lo < 18446744073709551616) (hy : y < 9223372036854775808) (w : World) :
    Calls Try.prog 31 #[.int .u64 0, .int .u64 lo, .int .u64 y] w fun e w' => e = .returned (.tuple #[.int .u64 ((lo / y : Nat) : Int), .int .u64 ((lo % y : Nat) : Int)]) ∧ ∃ n, w' = w.drewN n := by
  have n0 : ((y : Int) == 0) = false := by simp; omega
  have n1 : ¬ (y : Int) = 0 := by omega
  go_enter Try.func31, Try.ntmps31
  go_wp2_with fail
  go_quiet (fail)
  go_wp2_with fail
  go_ret2
  refine ⟨?_, nq, rfl⟩
  show Ending.returned (.tuple #[.int .u64 (IntKind.u64.wrap ((lo : Int) / (y : Int))), .int .u64 ((lo : Int) % (y : Int))]) = _
  rw [wrap_quo lo y hlo]
  rfl

/-- math/bits.Div64: the quotient and the remainder of the number of two words by y. -/
theorem div64 (hi lo y : Nat) (hhi : hi < y) (hlo : lo < 18446744073709551616) (hy : y < 9223372036854775808) (w : World) :
    Calls Try.prog 31 #[.int .u64 hi, .int .u64 lo, .int .u64 y] w fun e w' => e = .returned (.tuple #[.int .u64 (((hi * 18446744073709551616 + lo) / y : Nat) : Int), .int .u64 (((hi * 18446744073709551616 + lo) % y : Nat) : Int)]) ∧ ∃ n, w' = w.drewN n := by
  rcases Nat.eq_zero_or_pos hi with h | h
  · subst h
    refine (div_small lo y hhi hlo hy w).mono ?_
    rintro e w' ⟨rfl, hw⟩
    exact ⟨by simp, hw⟩
  · refine (div_big hi lo y hhi h hlo hy w).mono ?_
    rintro e w' ⟨rfl, rfl⟩
    exact ⟨rfl, 0, rfl⟩
end Go.Proofs.Qxb6612665a.W
