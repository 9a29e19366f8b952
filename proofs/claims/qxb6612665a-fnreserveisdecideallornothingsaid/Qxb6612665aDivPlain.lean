/-
  THE ARITHMETIC UNDER math/bits.Div64 (Knuth's division of two digits by two): plain numbers, no Go in sight.
-/
import Derived.Lib.BitFns
namespace Go.Proofs.Qxb6612665a.W

theorem mulY (q y1 y0 : Nat) : q * (y1 * 4294967296 + y0) = q * y1 * 4294967296 + q * y0 := by
  rw [Nat.mul_add, Nat.mul_assoc]

/-- one digit's step: what the loop holds -/
structure Kn (y1 y0 Y U u1 q r : Nat) : Prop where
  sum : q * y1 + r = U
  ge : (U * 4294967296 + u1) / Y ≤ q
structure KnIn (y1 y0 Y U u1 : Nat) : Prop where
  y : Y = y1 * 4294967296 + y0
  pos : 2147483648 ≤ y1
  y0lt : y0 < 4294967296
  lt : U < Y
  u1lt : u1 < 4294967296

theorem KnIn.start {y1 y0 Y U u1 : Nat} (h : KnIn y1 y0 Y U u1) : Kn y1 y0 Y U u1 (U / y1) (U % y1) ∧ U / y1 ≤ 4294967297 := by
  have h1 := h.pos
  have hy := h.y
  refine ⟨⟨?_, ?_⟩, ?_⟩
  · rw [Nat.mul_comm]; exact Nat.div_add_mod U y1
  · rw [Nat.le_div_iff_mul_le (by omega)]
    have hd : (U * 4294967296 + u1) / Y * Y ≤ U * 4294967296 + u1 := Nat.div_mul_le_self _ _
    generalize (U * 4294967296 + u1) / Y = d at *
    rw [hy, mulY] at hd
    have := h.u1lt
    omega
  · have : U / y1 < 4294967298 := by
      rw [Nat.div_lt_iff_lt_mul (by omega)]
      have := h.lt
      have := h.y0lt
      omega
    omega
theorem Kn.big {y1 y0 Y U u1 q r : Nat} (i : KnIn y1 y0 Y U u1) (h : Kn y1 y0 Y U u1 q r) (hq : 4294967296 ≤ q) : Kn y1 y0 Y U u1 (q - 1) (r + y1) := by
  have hp := i.pos
  have hy := i.y
  have hd : (U * 4294967296 + u1) / Y < 4294967296 := by
    rw [Nat.div_lt_iff_lt_mul (by omega)]
    have := i.lt; have := i.u1lt
    omega
  refine ⟨?_, by omega⟩
  have e : q * y1 = (q - 1) * y1 + y1 := by
    conv => lhs; rw [show q = q - 1 + 1 by omega, Nat.add_mul, Nat.one_mul]
  have := h.sum
  omega
theorem Kn.more {y1 y0 Y U u1 q r : Nat} (i : KnIn y1 y0 Y U u1) (h : Kn y1 y0 Y U u1 q r) (ht : 4294967296 * r + u1 < q * y0) : Kn y1 y0 Y U u1 (q - 1) (r + y1) := by
  have hp := i.pos
  have hy := i.y
  have hs := h.sum
  have hq : 1 ≤ q := by
    rcases Nat.eq_zero_or_pos q with e | e
    · subst e; simp at ht
    · exact e
  have hd : (U * 4294967296 + u1) / Y < q := by
    rw [Nat.div_lt_iff_lt_mul (by omega), hy, mulY]
    omega
  refine ⟨?_, by omega⟩
  have e : q * y1 = (q - 1) * y1 + y1 := by
    conv => lhs; rw [show q = q - 1 + 1 by omega, Nat.add_mul, Nat.one_mul]
  omega
theorem Kn.stop {y1 y0 Y U u1 q r : Nat} (i : KnIn y1 y0 Y U u1) (h : Kn y1 y0 Y U u1 q r) (ht : q * y0 ≤ 4294967296 * r + u1) : q = (U * 4294967296 + u1) / Y := by
  have hp := i.pos
  have hy := i.y
  have hs := h.sum
  have hg := h.ge
  have : q ≤ (U * 4294967296 + u1) / Y := by
    rw [Nat.le_div_iff_mul_le (by omega), hy, mulY]
    omega
  omega
theorem Kn.leave {y1 y0 Y U u1 q r : Nat} (i : KnIn y1 y0 Y U u1) (h : Kn y1 y0 Y U u1 q r) (hq : q ≤ 4294967296) (hr : 4294967296 ≤ r) : q = (U * 4294967296 + u1) / Y := by
  apply h.stop i
  have h0 := i.y0lt
  have : q * y0 ≤ 4294967296 * 4294967295 := Nat.mul_le_mul hq (by omega)
  omega

/-- the two digits together -/
theorem two_digits (U u1 u0 Y : Nat) (hY : 0 < Y) : (U * 18446744073709551616 + (u1 * 4294967296 + u0)) / Y = (U * 4294967296 + u1) / Y * 4294967296 + ((U * 4294967296 + u1) % Y * 4294967296 + u0) / Y ∧
    (U * 18446744073709551616 + (u1 * 4294967296 + u0)) % Y = ((U * 4294967296 + u1) % Y * 4294967296 + u0) % Y := by
  have e : U * 18446744073709551616 + (u1 * 4294967296 + u0) = ((U * 4294967296 + u1) % Y * 4294967296 + u0) + Y * ((U * 4294967296 + u1) / Y * 4294967296) := by
    have h := Nat.div_add_mod (U * 4294967296 + u1) Y
    generalize (U * 4294967296 + u1) / Y = d at *
    generalize (U * 4294967296 + u1) % Y = m at *
    rw [← Nat.mul_assoc]
    omega
  rw [e]
  refine ⟨?_, ?_⟩
  · rw [Nat.add_mul_div_left _ _ hY, Nat.add_comm]
  · rw [Nat.add_mul_mod_self_left]
theorem unshift (X y p : Nat) (hp : 0 < p) : X * p / (y * p) = X / y ∧ X * p % (y * p) / p = X % y := by
  refine ⟨Nat.mul_div_mul_right _ _ hp, ?_⟩
  rw [Nat.mul_mod_mul_right, Nat.mul_div_cancel _ hp]

/-- the shift that makes y's top bit stand -/
theorem bitLen_span : ∀ (f y : Nat), 0 < y → y < 2 ^ f → f ≤ 64 → 2 ^ (Lib.bitLen y) ≤ 2 * y ∧ y < 2 ^ Lib.bitLen y
  | 0, y, h0, h, _ => by simp at h; omega
  | f + 1, y, h0, h, hf => by
    have h64 : y < 2 ^ 64 := Nat.lt_of_lt_of_le h (Nat.pow_le_pow_right (by omega) hf)
    rw [Lib.bitLen_half y (by omega) h64]
    by_cases h1 : y = 1
    · subst h1; decide
    · have hh : y / 2 < 2 ^ f := by rw [Nat.pow_succ] at h; omega
      obtain ⟨a, b⟩ := bitLen_span f (y / 2) (by omega) hh (by omega)
      rw [Nat.pow_add, Nat.pow_one]
      omega
theorem lz_span (y : Nat) (h0 : 0 < y) (hy : y < 9223372036854775808) : 1 ≤ 64 - Lib.bitLen y ∧ 64 - Lib.bitLen y ≤ 63 ∧ 9223372036854775808 ≤ y * 2 ^ (64 - Lib.bitLen y) ∧ y * 2 ^ (64 - Lib.bitLen y) < 18446744073709551616 := by
  obtain ⟨a, b⟩ := bitLen_span 64 y h0 (by omega) (by omega)
  have hl := Lib.bitLen_le y 63 (by omega) (by omega)
  have hb : 1 ≤ Lib.bitLen y := by
    rcases Nat.eq_zero_or_pos (Lib.bitLen y) with e | e
    · rw [e] at b; simp at b; omega
    · exact e
  have e : 2 ^ (Lib.bitLen y) * 2 ^ (64 - Lib.bitLen y) = 18446744073709551616 := by
    rw [← Nat.pow_add, show Lib.bitLen y + (64 - Lib.bitLen y) = 64 by omega]
  have hp : 0 < 2 ^ (64 - Lib.bitLen y) := Nat.two_pow_pos _
  refine ⟨by omega, by omega, ?_, ?_⟩
  · have := Nat.mul_le_mul_right (2 ^ (64 - Lib.bitLen y)) a
    rw [e, Nat.mul_assoc] at this
    omega
  · have := Nat.mul_lt_mul_of_pos_right b hp
    rw [e] at this
    exact this
end Go.Proofs.Qxb6612665a.W
namespace Go.Proofs.Qxb6612665a.W
/-- the dividend, shifted, cut into its two words -/
theorem shifted (hi lo y s : Nat) (s1 : 1 ≤ s) (s2 : s ≤ 63) (hlo : lo < 18446744073709551616) (hhi : hi < y) :
    (hi * 18446744073709551616 + lo) * 2 ^ s = (hi * 2 ^ s + lo / 2 ^ (64 - s)) * 18446744073709551616 + lo * 2 ^ s % 18446744073709551616 ∧
    lo / 2 ^ (64 - s) < 2 ^ s ∧ hi * 2 ^ s + lo / 2 ^ (64 - s) < y * 2 ^ s := by
  have ep : 2 ^ (64 - s) * 2 ^ s = 18446744073709551616 := by
    rw [← Nat.pow_add, show 64 - s + s = 64 by omega]
  have hp : 0 < 2 ^ s := Nat.two_pow_pos _
  have hq : 0 < 2 ^ (64 - s) := Nat.two_pow_pos _
  have e1 : lo * 2 ^ s / 18446744073709551616 = lo / 2 ^ (64 - s) := by
    rw [← ep, Nat.mul_div_mul_right _ _ hp]
  have e2 := Nat.div_add_mod (lo * 2 ^ s) 18446744073709551616
  rw [e1] at e2
  have h2 : lo / 2 ^ (64 - s) < 2 ^ s := by
    rw [Nat.div_lt_iff_lt_mul hq, Nat.mul_comm, ep]; exact hlo
  refine ⟨?_, h2, ?_⟩
  · rw [Nat.add_mul, Nat.mul_right_comm]
    omega
  · have : (hi + 1) * 2 ^ s ≤ y * 2 ^ s := Nat.mul_le_mul_right _ hhi
    rw [Nat.add_mul, Nat.one_mul] at this
    omega
end Go.Proofs.Qxb6612665a.W
