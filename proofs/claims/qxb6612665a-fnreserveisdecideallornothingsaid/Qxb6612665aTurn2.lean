import Derived.Test.Qxb6612665aTurn
namespace Go.Proofs.Qxb6612665a.W
open Go.RowKit
set_option linter.unusedVariables false

set_option maxRecDepth 100000 in
set_option maxHeartbeats 1000000 in
theorem turn_late (g l p b c A : Nat) (f : Fit l p b c) (hA : cv l A ≤ 9223372036854775807) (hr : room p b c < A) (w : World) (hg : GC g l p b w) :
    Calls Try.prog 38 #[.pointer (some ⟨g, 0, none⟩), .agg #[.int .i64 (qv l A), .int .u64 (rv l A)], .int .i64 c, .bool false] w fun e w' => e = .returned (.tuple #[.int .i64 (waitv l p b c A false), .bool (okv p b c A false)]) ∧ Below w.heap.size w w' := by
  rw [show waitv l p b c A false = cv l (A - room p b c) from by simp [waitv, hr], show okv p b c A false = true from rfl]
  have hcv : cv l (A - room p b c) ≤ 9223372036854775807 := by
    refine Int.le_trans ?_ hA
    unfold cv
    have := Nat.div_le_div_right (c := l) (show A - room p b c + (l - 1) ≤ A + (l - 1) by omega)
    omega
  have qA : qv l A ≤ 9223372036854775807 := by have := (cv_bounds l A f.l0).1; omega
  have HR2 := hide (ltB_yes hr)
  have hle := hide (Nat.le_of_lt hr)
  clear hr
  have st := SS.start (A := A) hg
  have F := hide f
  have cb : c < 9223372036854775808 := by have := f.cb; have := f.b2; omega
  have qb := qv_le f.tol f.l0
  have ST := hide st
  clear f hg st
  go_enter Try.func38, Try.ntmps38
  go_upto_region 1 with fail
  go_cut [10] (fun rp wx => ∃ rb, rp = .pointer (some ⟨rb, 0, none⟩) ∧ Hid (SR g l p b c A rb w wx))
  case first =>
    go_region_held3 (fun w' => w'.cell? ⟨g, 0, none⟩ = some (.int .u64 l) ∧ w'.cell? ⟨g, 1, none⟩ = some (.int .u64 p) ∧ w'.cell? ⟨g, 2, none⟩ = some (.int .i64 b) ∧ w'.cell? ⟨g, 3, none⟩ = some (.int .i64 (qv l (b * p))) ∧ w'.cell? ⟨g, 4, none⟩ = some (.int .u64 (rv l (b * p))) ∧ w'.cell? ⟨w.heap.size, 0, none⟩ = some (.int .i64 (qv l A)) ∧ w'.cell? ⟨w.heap.size, 1, none⟩ = some (.int .u64 (rv l A)) ∧ g < w.heap.size ∧ w.heap.size < w'.heap.size ∧ Below w.heap.size w w')
      (first | exact ST.out.drew | exact ST.out.drew.alloc _ | exact S1.out | exact S1.out.alloc _ | exact S2.out | exact S2.out.alloc _ | (refine SS.set (SS.set S2.out ?_ _) ?_ _ <;> first | omega | (simp; omega)))
      (first
        | ((go_at_call 19; refine (interval_any g l p c F.out.l0 F.out.l2 F.out.p2 cb F.out.cost _ ?_ ?_).mono ?_; (simp [*]); (simp [*]); rintro e w1 ⟨rfl, hb1⟩; have S1 : Hid (SS g l p b A w w1) := SS.call (by unfold SS; assumption) hb1; have z1 := S1.out.lz; obtain ⟨hc1, hf1⟩ := bcell hb1; try (have zq : w.heap.size + 1 < w1.heap.size := by have := hb1.size; simp at this; omega)))
        | ((go_at_call 25; refine (sub_any l (b * p) (c * p) F.out.l0 F.out.l2 F.out.cp qb _).mono ?_; rintro e w2 ⟨rfl, hb2⟩; have S2 : Hid (SS g l p b A w w2) := SS.call (by unfold SS; assumption) hb2; have z2 := S2.out.lz; obtain ⟨hc2, hf2⟩ := bcell hb2)))
    all_goals go_wp2_with fail
    all_goals go_meet
    all_goals first
      | exact ⟨_, rfl, SR.way3 S2.out⟩
      | exact ⟨_, rfl, SR.way2 S1.out S2.out hb2⟩
      | exact ⟨_, rfl, SR.way1 S2.out hb1 hb2⟩

  case rest =>
    obtain ⟨rb, rfl, HR⟩ := hcut
    clear ST
    obtain ⟨g0, t0, t1, r0, r1, lg, lz, lr, hB⟩ := HR.out
    go_wp2_with fail
    refine (less_any l (room p b c) A F.out.l0 _).mono ?_
    rintro e w1 ⟨rfl, hb1⟩
    rw [HR2.out]
    have Q1 : Hid (SR g l p b c A rb w w1) := SR.call HR.out hb1
    clear g0 t0 t1 r0 r1 lz lr hB hb1 lg
    go_wp2_with fail
    go_region_held3 (fun w' => w'.cell? ⟨g, 0, none⟩ = some (.int .u64 l) ∧ w'.cell? ⟨w.heap.size, 0, none⟩ = some (.int .i64 (qv l A)) ∧ w'.cell? ⟨w.heap.size, 1, none⟩ = some (.int .u64 (rv l A)) ∧ w'.cell? ⟨rb, 0, none⟩ = some (.int .i64 (qv l (room p b c))) ∧ w'.cell? ⟨rb, 1, none⟩ = some (.int .u64 (rv l (room p b c))) ∧ g < w.heap.size ∧ w.heap.size < w'.heap.size ∧ rb < w'.heap.size ∧ Below w.heap.size w w')
      (first | exact Q1.out.drew | exact R1.out | exact R2.out)
      (first
        | ((go_at_call 25; refine (sub_any l A (room p b c) F.out.l0 F.out.l2 hle.out qA _).mono ?_; rintro e w2 ⟨rfl, hb2⟩; have R1 : Hid (SR g l p b c A rb w w2) := SR.call (by unfold SR; assumption) hb2))
        | ((go_at_call 27; refine (ceil_any l (A - room p b c) F.out.l0 hcv _).mono ?_; rintro e w3 ⟨rfl, hb3⟩; have R2 : Hid (SR g l p b c A rb w w3) := SR.call (by unfold SR; assumption) hb3)))
    go_wp2_with fail
    go_ret2
    exact ⟨rfl, R2.out.below⟩

set_option maxRecDepth 100000 in
set_option maxHeartbeats 1000000 in
theorem turn_now (g l p b c A : Nat) (f : Fit l p b c) (hA : cv l A ≤ 9223372036854775807) (hr : ¬ room p b c < A) (w : World) (hg : GC g l p b w) :
    Calls Try.prog 38 #[.pointer (some ⟨g, 0, none⟩), .agg #[.int .i64 (qv l A), .int .u64 (rv l A)], .int .i64 c, .bool false] w fun e w' => e = .returned (.tuple #[.int .i64 (waitv l p b c A false), .bool (okv p b c A false)]) ∧ Below w.heap.size w w' := by
  rw [show waitv l p b c A false = 0 from by simp [waitv, hr], show okv p b c A false = true from rfl]
  have HR2 := hide (ltB_no hr)
  clear hr
  have st := SS.start (A := A) hg
  have F := hide f
  have cb : c < 9223372036854775808 := by have := f.cb; have := f.b2; omega
  have qb := qv_le f.tol f.l0
  have ST := hide st
  clear f hg st
  go_enter Try.func38, Try.ntmps38
  go_upto_region 1 with fail
  go_cut [10] (fun rp wx => ∃ rb, rp = .pointer (some ⟨rb, 0, none⟩) ∧ Hid (SR g l p b c A rb w wx))
  case first =>
    go_region_held3 (fun w' => w'.cell? ⟨g, 0, none⟩ = some (.int .u64 l) ∧ w'.cell? ⟨g, 1, none⟩ = some (.int .u64 p) ∧ w'.cell? ⟨g, 2, none⟩ = some (.int .i64 b) ∧ w'.cell? ⟨g, 3, none⟩ = some (.int .i64 (qv l (b * p))) ∧ w'.cell? ⟨g, 4, none⟩ = some (.int .u64 (rv l (b * p))) ∧ w'.cell? ⟨w.heap.size, 0, none⟩ = some (.int .i64 (qv l A)) ∧ w'.cell? ⟨w.heap.size, 1, none⟩ = some (.int .u64 (rv l A)) ∧ g < w.heap.size ∧ w.heap.size < w'.heap.size ∧ Below w.heap.size w w')
      (first | exact ST.out.drew | exact ST.out.drew.alloc _ | exact S1.out | exact S1.out.alloc _ | exact S2.out | exact S2.out.alloc _ | (refine SS.set (SS.set S2.out ?_ _) ?_ _ <;> first | omega | (simp; omega)))
      (first
        | ((go_at_call 19; refine (interval_any g l p c F.out.l0 F.out.l2 F.out.p2 cb F.out.cost _ ?_ ?_).mono ?_; (simp [*]); (simp [*]); rintro e w1 ⟨rfl, hb1⟩; have S1 : Hid (SS g l p b A w w1) := SS.call (by unfold SS; assumption) hb1; have z1 := S1.out.lz; obtain ⟨hc1, hf1⟩ := bcell hb1; try (have zq : w.heap.size + 1 < w1.heap.size := by have := hb1.size; simp at this; omega)))
        | ((go_at_call 25; refine (sub_any l (b * p) (c * p) F.out.l0 F.out.l2 F.out.cp qb _).mono ?_; rintro e w2 ⟨rfl, hb2⟩; have S2 : Hid (SS g l p b A w w2) := SS.call (by unfold SS; assumption) hb2; have z2 := S2.out.lz; obtain ⟨hc2, hf2⟩ := bcell hb2)))
    all_goals go_wp2_with fail
    all_goals go_meet
    all_goals first
      | exact ⟨_, rfl, SR.way3 S2.out⟩
      | exact ⟨_, rfl, SR.way2 S1.out S2.out hb2⟩
      | exact ⟨_, rfl, SR.way1 S2.out hb1 hb2⟩

  case rest =>
    obtain ⟨rb, rfl, HR⟩ := hcut
    clear ST
    obtain ⟨g0, t0, t1, r0, r1, lg, lz, lr, hB⟩ := HR.out
    go_wp2_with fail
    refine (less_any l (room p b c) A F.out.l0 _).mono ?_
    rintro e w1 ⟨rfl, hb1⟩
    rw [HR2.out]
    have Q1 : Hid (SR g l p b c A rb w w1) := SR.call HR.out hb1
    clear g0 t0 t1 r0 r1 lz lr hB hb1 lg
    go_wp2_with fail
    go_ret2
    exact ⟨rfl, Q1.out.below⟩

theorem turn_any (g l p b c A : Nat) (qu : Bool) (f : Fit l p b c) (hA : cv l A ≤ 9223372036854775807) (w : World) (hg : GC g l p b w) :
    Calls Try.prog 38 #[.pointer (some ⟨g, 0, none⟩), .agg #[.int .i64 (qv l A), .int .u64 (rv l A)], .int .i64 c, .bool qu] w fun e w' => e = .returned (.tuple #[.int .i64 (waitv l p b c A qu), .bool (okv p b c A qu)]) ∧ Below w.heap.size w w' := by
  cases qu with
  | true => exact turn_queue g l p b c A f hA w hg
  | false =>
    by_cases hr : room p b c < A
    · exact turn_late g l p b c A f hA hr w hg
    · exact turn_now g l p b c A f hA hr w hg
end Go.Proofs.Qxb6612665a.W
