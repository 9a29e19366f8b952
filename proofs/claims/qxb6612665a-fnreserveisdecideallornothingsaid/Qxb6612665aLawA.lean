import Derived.Test.Qxb6612665aTurns
import Derived.Test.Qxb6612665aFitsPos
import Derived.Test.Qxb6612665aFitsNeg
namespace Go.Proofs.Qxb6612665a.W
open Go.RowKit
set_option linter.unusedVariables false

/-- the bound that is used: no less than nought -/
def lgv (longest : Int) : Int := if longest < 0 then 0 else longest
theorem fits_any (a0 a1 a2 a3 a4 : Option Addr) (n c0 c1 c2 c3 c4 : Nat) (L P B NS FR : Nat → Int) (c longest : Int) (hn : n ≤ 8192) (hlg2 : longest ≤ 9223372036854775807) (hc2 : c ≤ 9223372036854775807) (hwf : Wfs L P B NS FR n) (w : World)
    (h0 : IRow .u64 a0 n L w) (h1 : IRow .u64 a1 n P w) (h2 : IRow .i64 a2 n B w) (h3 : IRow .i64 a3 n NS w) (h4 : IRow .u64 a4 n FR w) :
    Calls Try.prog 12 #[.slice a0 n c0, .slice a1 n c1, .slice a2 n c2, .slice a3 n c3, .slice a4 n c4, .int .i64 c, .int .i64 longest] w fun e w' => FitPost (lgv longest) c L P B NS FR n w e w' := by
  by_cases hc : 1 ≤ c
  · unfold lgv
    by_cases hl : longest < 0
    · rw [if_pos hl]
      exact fits_neg a0 a1 a2 a3 a4 n c0 c1 c2 c3 c4 L P B NS FR c longest hn hc hl hlg2 hc2 hwf w h0 h1 h2 h3 h4
    · rw [if_neg hl]
      exact fits_pos a0 a1 a2 a3 a4 n c0 c1 c2 c3 c4 L P B NS FR c longest hn hc hl hlg2 hc2 hwf w h0 h1 h2 h3 h4
  · have hc' : c < 1 := by omega
    clear h0 h1 h2 h3 h4 hwf hc
    go_enter Try.func12, Try.ntmps12
    go_wp2_with fail
    go_ret
    exact ⟨false, rfl, rfl, fun h => by cases h⟩

/-- the seven rows that came in -/
structure Rows7 (D : Dat) (a0 a1 a2 a3 a4 a5 a6 : Option Addr) (n : Nat) (w : World) : Prop where
  r0 : IRow .u64 a0 n D.L w
  r1 : IRow .u64 a1 n D.P w
  r2 : IRow .i64 a2 n D.B w
  r3 : BRow a3 n D.Q w
  r4 : IRow .i64 a4 n D.NS w
  r5 : IRow .u64 a5 n D.FR w
  r6 : IRow .u64 a6 n D.LT w
theorem Rows7.later {D : Dat} {a0 a1 a2 a3 a4 a5 a6 : Option Addr} {n : Nat} {w W : World} (h : Rows7 D a0 a1 a2 a3 a4 a5 a6 n w) (hb : Below w.heap.size w W) : Rows7 D a0 a1 a2 a3 a4 a5 a6 n W :=
  ⟨h.r0.later hb, h.r1.later hb, h.r2.later hb, h.r3.later hb, h.r4.later hb, h.r5.later hb, h.r6.later hb⟩

theorem newgcraI (l p b : Int) (hl : 0 < l) (hl2 : l < 9223372036854775808) (hp0 : 0 ≤ p) (hp : p < 9223372036854775808) (hb0 : 0 ≤ b) (hb : b < 9223372036854775808) (hbp : b.toNat * p.toNat ≤ 9223372036854775807 * l.toNat) (w : World) :
    Calls Try.prog 13 #[.int .u64 l, .int .u64 p, .int .i64 b] w fun e w' =>
      e = .returned (.pointer (some ⟨w.heap.size, 0, none⟩)) ∧ Below w.heap.size w w' ∧ GC w.heap.size l.toNat p.toNat b.toNat w' := by
  have h := newgcra_any l.toNat p.toNat b.toNat (by omega) (by omega) (by omega) (by omega) hbp w
  rw [Int.toNat_of_nonneg (show 0 ≤ l by omega), Int.toNat_of_nonneg hp0, Int.toNat_of_nonneg hb0] at h
  exact h
theorem BL.cells {D : Dat} {G : Nat → Nat} {n tb k : Nat} {w W : World} (h : BL D G n tb k w W) {j : Nat} (hj : j < n) :
    ∃ v0 v1 v2 v3 v4, W.cell? ⟨tb, j * 5, none⟩ = some v0 ∧ W.cell? ⟨tb, j * 5 + 1, none⟩ = some v1 ∧ W.cell? ⟨tb, j * 5 + 2, none⟩ = some v2 ∧ W.cell? ⟨tb, j * 5 + 3, none⟩ = some v3 ∧ W.cell? ⟨tb, j * 5 + 4, none⟩ = some v4 := by
  have kk := fun (o : Nat) (ho : o < n * 5) => Option.isSome_iff_exists.mp (h.there o ho)
  obtain ⟨v0, e0⟩ := kk (j * 5) (by omega)
  obtain ⟨v1, e1⟩ := kk (j * 5 + 1) (by omega)
  obtain ⟨v2, e2⟩ := kk (j * 5 + 2) (by omega)
  obtain ⟨v3, e3⟩ := kk (j * 5 + 3) (by omega)
  obtain ⟨v4, e4⟩ := kk (j * 5 + 4) (by omega)
  exact ⟨v0, v1, v2, v3, v4, e0, e1, e2, e3, e4⟩
theorem BL.start {D : Dat} {n : Nat} {w : World} {z : Array Value} {e : TypeId} : BL D (fun _ => 0) n w.heap.size 0 w (w.alloc (.cells (madeCells z (n * 5)) e)) :=
  ⟨below1 w _, Own.new w _ e, fun o ho => (made_there w z (n * 5) e o ho).1, fun i hi => absurd hi (Nat.not_lt_zero i), Nat.le_refl _⟩
theorem Wfs.tol {lg c l p b ns fr : Int} (h : FitAt lg c l p b ns fr) : b.toNat * p.toNat ≤ 9223372036854775807 * l.toNat := by
  have := h.sum
  have : b.toNat * p.toNat ≤ (b.toNat + 1) * p.toNat := Nat.mul_le_mul_right _ (by omega)
  omega
end Go.Proofs.Qxb6612665a.W
