import Derived.Test.Qxb6612665aSmall
namespace Go.Proofs.Qxb6612665a.W
open Go.RowKit
set_option linter.unusedVariables false

/-- a row of integers that came in -/
def IRow (k : IntKind) (a : Option Addr) (n : Nat) (f : Nat → Int) (w : World) : Prop := ∀ i, i < n → ∃ x, a = some x ∧ x.block < w.heap.size ∧ w.cell? (x.add i) = some (.int k (f i))
theorem mul128I (x y : Int) (hx0 : 0 ≤ x) (hx : x < 18446744073709551616) (hy0 : 0 ≤ y) (hy : y < 18446744073709551616) (w : World) :
    Calls Try.prog 23 #[.int .u64 x, .int .u64 y] w fun e w' => e = .returned (.tuple #[.int .u64 (hiv (x.toNat * y.toNat)), .int .u64 (lov (x.toNat * y.toNat))]) ∧ w = w' := by
  have h := mul128X x.toNat y.toNat _ rfl (by omega) (by omega) w
  rw [Int.toNat_of_nonneg hx0, Int.toNat_of_nonneg hy0] at h
  exact h
/-- ONE CHECK FITS: limit, period, burst, ahead's whole and fraction -/
structure FitAt (lg c l p b ns fr : Int) : Prop where
  l0 : 0 < l
  l1 : l ≤ 9223372036854775807
  p0 : 0 < p
  p1 : p ≤ 9223372036854775807
  cb : c ≤ b
  b1 : b < 9223372036854775807
  ns0 : 0 ≤ ns
  frl : fr < l
  top : ¬ (ns = 9223372036854775807 ∧ 0 < fr)
  sum : lg.toNat * l.toNat + (b.toNat + 1) * p.toNat ≤ 9223372036854775807 * l.toNat
/-- 128 bits, by halves -/
theorem hi_lt {x y : Nat} (hx : x ≤ 9223372036854775808) (hy : y ≤ 9223372036854775808) : hiv (x * y) ≤ 4611686018427387904 := by
  unfold hiv
  have : x * y ≤ 9223372036854775808 * 9223372036854775808 := Nat.mul_le_mul hx hy
  have := Nat.div_le_div_right (c := 18446744073709551616) this
  omega
theorem sum_le (X Y Z : Nat) (lo hi : Int) (h : hi * 18446744073709551616 + lo = X + Y) (h0 : 0 ≤ lo) (h1 : lo < 18446744073709551616) (ht : ¬ (hi > hiv Z ∨ (hi = hiv Z ∧ lo > lov Z))) : X + Y ≤ Z := by
  have hz := hilo Z
  have a := lov_nn Z
  have b := lov_lt Z
  have hh : hi ≤ hiv Z := by
    rcases Int.lt_or_le (hiv Z) hi with h' | h'
    · exact absurd (.inl h') ht
    · exact h'
  rcases Int.lt_or_eq_of_le hh with h' | h'
  · omega
  · have : ¬ lo > lov Z := fun hx => ht (.inr ⟨h', hx⟩)
    omega

/-- THE PREMISE, CHECKED: if it returns true, every check fits. -/
def FitsAll (lg c : Int) (L P B NS FR : Nat → Int) (n : Nat) : Prop := 1 ≤ c ∧ ∀ i, i < n → FitAt lg c (L i) (P i) (B i) (NS i) (FR i)
structure Wfs (L P B NS FR : Nat → Int) (n : Nat) : Prop where
  l : ∀ i, i < n → 0 ≤ L i ∧ L i < 18446744073709551616
  p : ∀ i, i < n → 0 ≤ P i ∧ P i < 18446744073709551616
  b : ∀ i, i < n → -9223372036854775808 ≤ B i ∧ B i ≤ 9223372036854775807
  ns : ∀ i, i < n → -9223372036854775808 ≤ NS i ∧ NS i ≤ 9223372036854775807
  fr : ∀ i, i < n → 0 ≤ FR i ∧ FR i < 18446744073709551616
def FitPost (lg c : Int) (L P B NS FR : Nat → Int) (n : Nat) (w : World) (e : Ending) (w' : World) : Prop := ∃ r, e = .returned (.bool r) ∧ w = w' ∧ (r = true → FitsAll lg c L P B NS FR n)

end Go.Proofs.Qxb6612665a.W
