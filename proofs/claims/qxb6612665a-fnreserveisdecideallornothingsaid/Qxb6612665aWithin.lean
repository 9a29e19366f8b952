import Derived.Test.Qxb6612665aTurn2
namespace Go.Proofs.Qxb6612665a.W
open Go.RowKit
set_option linter.unusedVariables false

/-- the turn, so late, saturated -/
def afterv (wait late : Int) : Int := if late ≤ 9223372036854775807 - wait then wait + late else 9223372036854775807
/-- the farthest turn -/
def farv (l p b : Nat) : Int := 9223372036854775807 - qv l (b * p) - 2
/-- is the turn within the bound? -/
def inB (after longest far : Int) : Bool := decide (after ≤ min longest far)

/-- A TURN in memory at ⟨tb, t⟩ -/
structure TC (tb t g : Nat) (qu : Bool) (ns fr late : Int) (w : World) : Prop where
  c0 : w.cell? ⟨tb, t, none⟩ = some (.pointer (some ⟨g, 0, none⟩))
  c1 : w.cell? ⟨tb, t + 1, none⟩ = some (.bool qu)
  c2 : w.cell? ⟨tb, t + 2, none⟩ = some (.int .i64 ns)
  c3 : w.cell? ⟨tb, t + 3, none⟩ = some (.int .u64 fr)
  c4 : w.cell? ⟨tb, t + 4, none⟩ = some (.int .u64 late)
theorem TC.lt {tb t g : Nat} {qu : Bool} {ns fr late : Int} {w : World} (h : TC tb t g qu ns fr late w) : tb < w.heap.size := World.block_lt_of_cell? w _ h.c0
theorem TC.later {tb t g : Nat} {qu : Bool} {ns fr late : Int} {w w' : World} (h : TC tb t g qu ns fr late w) (hb : Below w.heap.size w w') : TC tb t g qu ns fr late w' :=
  ⟨by rw [hb.cell h.lt]; exact h.c0, by rw [hb.cell h.lt]; exact h.c1, by rw [hb.cell h.lt]; exact h.c2, by rw [hb.cell h.lt]; exact h.c3, by rw [hb.cell h.lt]; exact h.c4⟩

theorem waitv_nn (l p b c A : Nat) (qu : Bool) : 0 ≤ waitv l p b c A qu := by
  unfold waitv
  split
  · exact Int.natCast_nonneg _
  · split
    · exact Int.natCast_nonneg _
    · omega
theorem cv_mono (l A B : Nat) (h : A ≤ B) : cv l A ≤ cv l B := by
  unfold cv
  have := Nat.div_le_div_right (c := l) (show A + (l - 1) ≤ B + (l - 1) by omega)
  omega
theorem waitv_le (l p b c A : Nat) (qu : Bool) (hA : cv l A ≤ 9223372036854775807) : waitv l p b c A qu ≤ 9223372036854775807 := by
  unfold waitv
  split
  · exact hA
  · split
    · exact Int.le_trans (cv_mono l _ _ (by omega)) hA
    · omega

set_option maxRecDepth 100000 in
set_option maxHeartbeats 1000000 in
theorem within_any (tb t g l p b c A : Nat) (qu : Bool) (late longest : Int) (f : Fit l p b c) (hA : cv l A ≤ 9223372036854775807) (hl0 : 0 ≤ late) (hl1 : late < 18446744073709551616) (w : World) (hg : GC g l p b w) (ht : TC tb t g qu (qv l A) (rv l A) late w) :
    Calls Try.prog 33 #[.pointer (some ⟨tb, t, none⟩), .int .i64 c, .int .i64 longest] w fun e w' =>
      e = .returned (.tuple #[.int .i64 (afterv (waitv l p b c A qu) late), .bool (okv p b c A qu), .bool (okv p b c A qu && inB (afterv (waitv l p b c A qu) late) longest (farv l p b))]) ∧ Below w.heap.size w w' := by
  have w0 := waitv_nn l p b c A qu
  have w1' := waitv_le l p b c A qu hA
  have c0 := ht.c0
  have c1 := ht.c1
  have c2 := ht.c2
  have c3 := ht.c3
  have lt := ht.lt
  have qb := qv_le f.tol f.l0
  have HT := hide ht
  have HG := hide hg
  have F := hide f
  clear ht hg f
  have lg := HG.out.lt
  generalize hwv : waitv l p b c A qu = wv at *
  generalize hok : okv p b c A qu = ok at *
  have HW := hide hwv
  have HO := hide hok
  clear hwv hok
  go_enter Try.func33, Try.ntmps33
  go_wp2_with fail
  go_region_held3 (fun w' => w'.cell? ⟨tb, t, none⟩ = some (.pointer (some ⟨g, 0, none⟩)) ∧ w'.cell? ⟨tb, t + 1, none⟩ = some (.bool qu) ∧ w'.cell? ⟨tb, t + 2, none⟩ = some (.int .i64 (qv l A)) ∧ w'.cell? ⟨tb, t + 3, none⟩ = some (.int .u64 (rv l A)) ∧ Below w.heap.size w w')
    (first | exact ⟨c0, c1, c2, c3, (Below.refl _ _).drew⟩ | exact ⟨(hb1.cell (p := ⟨tb, t, none⟩) lt).trans c0, (hb1.cell (p := ⟨tb, t + 1, none⟩) lt).trans c1, (hb1.cell (p := ⟨tb, t + 2, none⟩) lt).trans c2, (hb1.cell (p := ⟨tb, t + 3, none⟩) lt).trans c3, hb1⟩)
    ((go_at_call 38; refine (turn_any g l p b c A qu F.out hA _ ?_).mono ?_; (exact HG.out); rintro e w1 ⟨rfl, hb1'⟩; rw [HW.out, HO.out]; have hb1 : Below w.heap.size w w1 := (Below.refl _ _).drew.trans hb1'))
  have t1 := HT.out.later hb1
  have g1 := HG.out.later hb1
  have k0 := t1.c0
  have k4 := t1.c4
  have HB := hide hb1
  have G1 := hide g1
  clear c0 c1 c2 c3 hb1 hb1' t1 g1 HG HT lt lg
  cases ok with
  | false =>
    by_cases hl : late ≤ 9223372036854775807 - wv
    · have HV : Hid (afterv wv late = wv + late) := if_pos hl
      go_wp2_with fail
      go_ret3
      exact ⟨by rw [HV.out]; rfl, HB.out⟩
    · have HV : Hid (afterv wv late = 9223372036854775807) := if_neg hl
      go_wp2_with fail
      go_ret3
      exact ⟨by rw [HV.out]; rfl, HB.out⟩
  | true =>
    by_cases hl : late ≤ 9223372036854775807 - wv
    · have HV : Hid (afterv wv late = wv + late) := if_pos hl
      go_wp2_with fail
      refine (farthest_any g l p b qb _ G1.out).mono ?_
      rintro e w2 ⟨rfl, rfl⟩
      go_wp2_with fail
      go_ret3
      exact ⟨by rw [HV.out]; rfl, HB.out⟩
    · have HV : Hid (afterv wv late = 9223372036854775807) := if_neg hl
      go_wp2_with fail
      refine (farthest_any g l p b qb _ G1.out).mono ?_
      rintro e w2 ⟨rfl, rfl⟩
      go_wp2_with fail
      go_ret3
      exact ⟨by rw [HV.out]; rfl, HB.out⟩
end Go.Proofs.Qxb6612665a.W
