import Derived.Test.Qxb6612665aMake
namespace Go.Proofs.Qxb6612665a.W
open Go.RowKit
set_option linter.unusedVariables false

/-- THE INPUT, by index -/
structure Dat where
  L : Nat → Int
  P : Nat → Int
  B : Nat → Int
  Q : Nat → Bool
  NS : Nat → Int
  FR : Nat → Int
  LT : Nat → Int
/-- check i, its limiter at g -/
def Dat.chk (D : Dat) (i g : Nat) : Chk := ⟨(D.L i).toNat, (D.P i).toNat, (D.B i).toNat, (D.NS i).toNat * (D.L i).toNat + (D.FR i).toNat, D.Q i, D.LT i, g⟩
/-- a row of bools that came in -/
def BRow (a : Option Addr) (n : Nat) (f : Nat → Bool) (w : World) : Prop := ∀ i, i < n → ∃ x, a = some x ∧ x.block < w.heap.size ∧ w.cell? (x.add i) = some (.bool (f i))
theorem IRow.later {k : IntKind} {a : Option Addr} {n : Nat} {f : Nat → Int} {w W : World} (h : IRow k a n f w) (hb : Below w.heap.size w W) : IRow k a n f W := fun i hi => by
  obtain ⟨x, e, hx, hc⟩ := h i hi
  exact ⟨x, e, Nat.lt_of_lt_of_le hx hb.size, by rw [hb.cell (p := x.add i) (World.block_lt_of_cell? w _ hc)]; exact hc⟩
theorem chk_A (ns fr l : Int) (h0 : 0 < l) (h1 : 0 ≤ ns) (h2 : 0 ≤ fr) (h3 : fr < l) : qv l.toNat (ns.toNat * l.toNat + fr.toNat) = ns ∧ rv l.toNat (ns.toNat * l.toNat + fr.toNat) = fr := by
  obtain ⟨e1, e2⟩ := qr_uniq l.toNat (ns.toNat * l.toNat + fr.toNat) ns fr (by omega) (by
    rw [Int.toNat_of_nonneg (by omega)]
    rw [Int.natCast_add, Int.natCast_mul, Int.toNat_of_nonneg h1, Int.toNat_of_nonneg h2, Int.toNat_of_nonneg (show 0 ≤ l by omega), Int.mul_comm]) h2 (by omega)
  exact ⟨e1.symm, e2.symm⟩
theorem Dat.good (D : Dat) (i g : Nat) (lg : Int) (c : Nat) (hc : 1 ≤ c) (h : FitAt lg c (D.L i) (D.P i) (D.B i) (D.NS i) (D.FR i)) (hns : D.NS i ≤ 9223372036854775807) (hfr : 0 ≤ D.FR i) (hl : 0 ≤ D.LT i ∧ D.LT i < 18446744073709551616) : (D.chk i g).Good c := by
  have l0 := h.l0; have l1 := h.l1; have p0 := h.p0; have p1 := h.p1; have cb := h.cb; have b1 := h.b1; have n0 := h.ns0; have fl := h.frl
  obtain ⟨e1, e2⟩ := chk_A (D.NS i) (D.FR i) (D.L i) l0 n0 hfr fl
  have hsum := h.sum
  refine ⟨⟨?_, ?_, ?_, ?_, hc, ?_, ?_, ?_⟩, ?_, hl.1, hl.2⟩
  · show 0 < (D.L i).toNat; omega
  · show (D.L i).toNat < _; omega
  · show 0 < (D.P i).toNat; omega
  · show (D.P i).toNat < _; omega
  · show c ≤ (D.B i).toNat; omega
  · show (D.B i).toNat < _; omega
  · show ((D.B i).toNat + 1) * (D.P i).toNat ≤ 9223372036854775807 * (D.L i).toNat
    omega
  · show cv (D.L i).toNat ((D.NS i).toNat * (D.L i).toNat + (D.FR i).toNat) ≤ _
    by_cases hz : D.FR i = 0
    · rw [cv_zero _ _ (by omega) (by rw [e2]; exact hz), e1]; exact hns
    · rw [cv_pos _ _ (by omega) (by rw [e2]; omega), e1]
      have := h.top
      have : D.NS i ≠ 9223372036854775807 := fun e => this ⟨e, by omega⟩
      omega
theorem BRow.later {a : Option Addr} {n : Nat} {f : Nat → Bool} {w W : World} (h : BRow a n f w) (hb : Below w.heap.size w W) : BRow a n f W := fun i hi => by
  obtain ⟨x, e, hx, hc⟩ := h i hi
  exact ⟨x, e, Nat.lt_of_lt_of_le hx hb.size, by rw [hb.cell (p := x.add i) (World.block_lt_of_cell? w _ hc)]; exact hc⟩

/-- WHAT IS HELD WHILE A TURN IS BUILT: the seven cells that came in; nothing that was there has turned; the row at tb may be written -/
@[reducible] def S7 (w : World) (tb : Nat) (A0 A1 A2 A3 A4 A5 A6 : Addr) (v0 v1 v2 : Int) (v3 : Bool) (v4 v5 v6 : Int) (W : World) : Prop :=
  W.cell? A0 = some (.int .u64 v0) ∧ W.cell? A1 = some (.int .u64 v1) ∧ W.cell? A2 = some (.int .i64 v2) ∧ W.cell? A3 = some (.bool v3) ∧ W.cell? A4 = some (.int .i64 v4) ∧ W.cell? A5 = some (.int .u64 v5) ∧ W.cell? A6 = some (.int .u64 v6) ∧ Below w.heap.size w W ∧ Own tb W
theorem S7.of {w W : World} {tb : Nat} {A0 A1 A2 A3 A4 A5 A6 : Addr} {v0 v1 v2 : Int} {v3 : Bool} {v4 v5 v6 : Int} (hb : Below w.heap.size w W) (ho : Own tb W)
    (h0 : w.cell? A0 = some (.int .u64 v0)) (h1 : w.cell? A1 = some (.int .u64 v1)) (h2 : w.cell? A2 = some (.int .i64 v2)) (h3 : w.cell? A3 = some (.bool v3)) (h4 : w.cell? A4 = some (.int .i64 v4)) (h5 : w.cell? A5 = some (.int .u64 v5)) (h6 : w.cell? A6 = some (.int .u64 v6)) :
    S7 w tb A0 A1 A2 A3 A4 A5 A6 v0 v1 v2 v3 v4 v5 v6 W := by
  have k := fun (A : Addr) (v : Value) (h : w.cell? A = some v) => (hb.cell (p := A) (World.block_lt_of_cell? w _ h)).trans h
  exact ⟨k _ _ h0, k _ _ h1, k _ _ h2, k _ _ h3, k _ _ h4, k _ _ h5, k _ _ h6, hb, ho⟩
theorem S7.again {w W W' : World} {tb : Nat} {A0 A1 A2 A3 A4 A5 A6 : Addr} {v0 v1 v2 : Int} {v3 : Bool} {v4 v5 v6 : Int} (h : S7 w tb A0 A1 A2 A3 A4 A5 A6 v0 v1 v2 v3 v4 v5 v6 w) (hb : Below w.heap.size w W') (ho : Own tb W') :
    S7 w tb A0 A1 A2 A3 A4 A5 A6 v0 v1 v2 v3 v4 v5 v6 W' := by
  obtain ⟨h0, h1, h2, h3, h4, h5, h6, _, _⟩ := h
  exact S7.of hb ho h0 h1 h2 h3 h4 h5 h6
theorem S7.drew {w W : World} {tb : Nat} {A0 A1 A2 A3 A4 A5 A6 : Addr} {v0 v1 v2 : Int} {v3 : Bool} {v4 v5 v6 : Int} (h : S7 w tb A0 A1 A2 A3 A4 A5 A6 v0 v1 v2 v3 v4 v5 v6 W) : S7 w tb A0 A1 A2 A3 A4 A5 A6 v0 v1 v2 v3 v4 v5 v6 W.drew := by
  obtain ⟨h0, h1, h2, h3, h4, h5, h6, hb, ho⟩ := h
  exact ⟨h0, h1, h2, h3, h4, h5, h6, hb.drew, ho⟩
theorem S7.call {w W W' : World} {tb : Nat} {A0 A1 A2 A3 A4 A5 A6 : Addr} {v0 v1 v2 : Int} {v3 : Bool} {v4 v5 v6 : Int} (h : S7 w tb A0 A1 A2 A3 A4 A5 A6 v0 v1 v2 v3 v4 v5 v6 W) (hc : Below W.heap.size W W') : S7 w tb A0 A1 A2 A3 A4 A5 A6 v0 v1 v2 v3 v4 v5 v6 W' := by
  obtain ⟨h0, h1, h2, h3, h4, h5, h6, hb, ho⟩ := h
  have k := fun (A : Addr) (v : Value) (h : W.cell? A = some v) => (hc.cell (p := A) (World.block_lt_of_cell? W _ h)).trans h
  exact ⟨k _ _ h0, k _ _ h1, k _ _ h2, k _ _ h3, k _ _ h4, k _ _ h5, k _ _ h6, below_call hb hc hb.size, ho.call hc⟩
theorem S7.put5 {w W : World} {tb t : Nat} {A0 A1 A2 A3 A4 A5 A6 : Addr} {v0 v1 v2 : Int} {v3 : Bool} {v4 v5 v6 : Int} (h : S7 w tb A0 A1 A2 A3 A4 A5 A6 v0 v1 v2 v3 v4 v5 v6 W) (hlt : w.heap.size ≤ tb) (hA : A0.block < w.heap.size ∧ A1.block < w.heap.size ∧ A2.block < w.heap.size ∧ A3.block < w.heap.size ∧ A4.block < w.heap.size ∧ A5.block < w.heap.size ∧ A6.block < w.heap.size) (u0 u1 u2 u3 u4 : Value) :
    S7 w tb A0 A1 A2 A3 A4 A5 A6 v0 v1 v2 v3 v4 v5 v6 (((((W.setCell ⟨tb, t, none⟩ u0).setCell ⟨tb, t + 1, none⟩ u1).setCell ⟨tb, t + 2, none⟩ u2).setCell ⟨tb, t + 3, none⟩ u3).setCell ⟨tb, t + 4, none⟩ u4) := by
  obtain ⟨h0, h1, h2, h3, h4, h5, h6, hb, ho⟩ := h
  obtain ⟨b0, b1, b2, b3, b4, b5, b6⟩ := hA
  have k := fun (A : Addr) (hA : A.block < w.heap.size) (X : World) (o : Nat) (u : Value) => World.cell?_setCell_other X ⟨tb, o, none⟩ A u (by intro e; rw [← e] at hA; exact absurd hA (by show ¬ tb < _; omega))
  have kk := fun (A : Addr) (hA : A.block < w.heap.size) (v : Value) (h : W.cell? A = some v) => show (((((W.setCell ⟨tb, t, none⟩ u0).setCell ⟨tb, t + 1, none⟩ u1).setCell ⟨tb, t + 2, none⟩ u2).setCell ⟨tb, t + 3, none⟩ u3).setCell ⟨tb, t + 4, none⟩ u4).cell? A = some v by rw [k A hA, k A hA, k A hA, k A hA, k A hA]; exact h
  exact ⟨kk _ b0 _ h0, kk _ b1 _ h1, kk _ b2 _ h2, kk _ b3 _ h3, kk _ b4 _ h4, kk _ b5 _ h5, kk _ b6 _ h6, ((((hb.setCell (p := ⟨tb, t, none⟩) hlt u0).setCell (p := ⟨tb, t + 1, none⟩) hlt u1).setCell (p := ⟨tb, t + 2, none⟩) hlt u2).setCell (p := ⟨tb, t + 3, none⟩) hlt u3).setCell (p := ⟨tb, t + 4, none⟩) hlt u4, ((((ho.set _ _).set _ _).set _ _).set _ _).set _ _⟩
end Go.Proofs.Qxb6612665a.W
