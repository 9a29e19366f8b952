import Derived.Test.Qxb6612665aGcra
import Derived.Deep.DeepCutAuto
import Derived.Deep.CutBlock
namespace Go.Proofs.Qxb6612665a.W
open Go.RowKit
set_option linter.unusedVariables false

/-- A CHECK THAT FITS: limit l, period p, burst b, the request's cost c; (b + 1) x T within a Duration. -/
structure Fit (l p b c : Nat) : Prop where
  l0 : 0 < l
  l2 : l < 9223372036854775808
  p0 : 0 < p
  p2 : p < 9223372036854775808
  c0 : 1 ≤ c
  cb : c ≤ b
  b2 : b < 9223372036854775807
  bp : (b + 1) * p ≤ 9223372036854775807 * l
theorem Fit.tol {l p b c : Nat} (f : Fit l p b c) : b * p ≤ 9223372036854775807 * l := Nat.le_trans (Nat.mul_le_mul_right p (by omega)) f.bp
theorem Fit.cost {l p b c : Nat} (f : Fit l p b c) : c * p ≤ 9223372036854775807 * l := Nat.le_trans (Nat.mul_le_mul_right p (by have := f.cb; omega)) f.bp
theorem qv_le {l V : Nat} (h : V ≤ 9223372036854775807 * l) (hl : 0 < l) : qv l V ≤ 9223372036854775807 := by
  unfold qv
  have : V / l ≤ 9223372036854775807 := Nat.div_le_of_le_mul (by rw [Nat.mul_comm]; exact h)
  omega
/-- B x T - cost x T -/
def room (p b c : Nat) : Nat := b * p - c * p
theorem Fit.cp {l p b c : Nat} (f : Fit l p b c) : c * p ≤ b * p := Nat.mul_le_mul_right p f.cb

/-- how long the request waits -/
def waitv (l p b c A : Nat) (qu : Bool) : Int := if qu then cv l A else if room p b c < A then cv l (A - room p b c) else 0
def okv (p b c A : Nat) (qu : Bool) : Bool := if qu then !ltB (room p b c) A else true

/-- WHAT HOLDS INSIDE turn, Decide, take: the limiter's cells and the boxed span's stand; nothing that was there has turned. -/
def SS (g l p b A : Nat) (w w' : World) : Prop :=
  w'.cell? ⟨g, 0, none⟩ = some (.int .u64 l) ∧ w'.cell? ⟨g, 1, none⟩ = some (.int .u64 p) ∧ w'.cell? ⟨g, 2, none⟩ = some (.int .i64 b) ∧ w'.cell? ⟨g, 3, none⟩ = some (.int .i64 (qv l (b * p))) ∧ w'.cell? ⟨g, 4, none⟩ = some (.int .u64 (rv l (b * p))) ∧
  w'.cell? ⟨w.heap.size, 0, none⟩ = some (.int .i64 (qv l A)) ∧ w'.cell? ⟨w.heap.size, 1, none⟩ = some (.int .u64 (rv l A)) ∧ g < w.heap.size ∧ w.heap.size < w'.heap.size ∧ Below w.heap.size w w'
theorem SS.start {g l p b A : Nat} {w : World} (hg : GC g l p b w) : SS g l p b A w (w.alloc (.cells #[.int .i64 (qv l A), .int .u64 (rv l A)] 38)) := by
  have hb := below1 w (.cells #[.int .i64 (qv l A), .int .u64 (rv l A)] 38)
  have hc := new_cell w #[.int .i64 (qv l A), .int .u64 (rv l A)] 38
  refine ⟨?_, ?_, ?_, ?_, ?_, hc 0, hc 1, hg.lt, by simp, hb⟩
  · rw [hb.cell hg.lt]; exact hg.c0
  · rw [hb.cell hg.lt]; exact hg.c1
  · rw [hb.cell hg.lt]; exact hg.c2
  · rw [hb.cell hg.lt]; exact hg.c3
  · rw [hb.cell hg.lt]; exact hg.c4
theorem SS.drew {g l p b A : Nat} {w W : World} (h : SS g l p b A w W) : SS g l p b A w W.drew := by
  obtain ⟨h0, h1, h2, h3, h4, s0, s1, lg, lz, hB⟩ := h
  exact ⟨h0, h1, h2, h3, h4, s0, s1, lg, lz, hB.drew⟩
theorem SS.call {g l p b A : Nat} {w W w1 : World} (h : SS g l p b A w W) (hb : Below W.heap.size W w1) : SS g l p b A w w1 := by
  obtain ⟨h0, h1, h2, h3, h4, s0, s1, lg, lz, hB⟩ := h
  have hs := hB.size
  have hz := hb.size
  have k := fun (b o : Nat) (hlt : b < W.heap.size) => hb.cell (p := ⟨b, o, none⟩) hlt
  exact ⟨by rw [k g 0 (by omega)]; exact h0, by rw [k g 1 (by omega)]; exact h1, by rw [k g 2 (by omega)]; exact h2, by rw [k g 3 (by omega)]; exact h3, by rw [k g 4 (by omega)]; exact h4,
    by rw [k _ 0 lz]; exact s0, by rw [k _ 1 lz]; exact s1, lg, by omega, below_call hB hb hs⟩
theorem SS.alloc {g l p b A : Nat} {w W : World} (h : SS g l p b A w W) (o : Obj) : SS g l p b A w (W.alloc o) := h.call (below1 W o)

theorem SS.lz {g l p b A : Nat} {w W : World} (h : SS g l p b A w W) : w.heap.size < W.heap.size := h.2.2.2.2.2.2.2.2.1
theorem SS.below {g l p b A : Nat} {w W : World} (h : SS g l p b A w W) : Below w.heap.size w W := h.2.2.2.2.2.2.2.2.2
theorem SS.lg {g l p b A : Nat} {w W : World} (h : SS g l p b A w W) : g < w.heap.size := h.2.2.2.2.2.2.2.1
theorem SS.set {g l p b A : Nat} {w W : World} (h : SS g l p b A w W) {rb j : Nat} (hr : w.heap.size < rb) (v : Value) : SS g l p b A w (W.setCell ⟨rb, j, none⟩ v) := by
  obtain ⟨h0, h1, h2, h3, h4, s0, s1, lg, lz, hB⟩ := h
  have k := fun (b o : Nat) (hne : b ≠ rb) => World.cell?_of_block (w := W) (w' := W.setCell ⟨rb, j, none⟩ v) (a := ⟨b, o, none⟩) (heap_setCell_other W ⟨rb, j, none⟩ b v hne)
  have hz : (W.setCell ⟨rb, j, none⟩ v).heap.size = W.heap.size := by simp [World.setCell]
  exact ⟨by rw [k g 0 (by omega)]; exact h0, by rw [k g 1 (by omega)]; exact h1, by rw [k g 2 (by omega)]; exact h2, by rw [k g 3 (by omega)]; exact h3, by rw [k g 4 (by omega)]; exact h4,
    by rw [k _ 0 (by omega)]; exact s0, by rw [k _ 1 (by omega)]; exact s1, lg, by omega, hB.setCell (Nat.le_of_lt hr) v⟩

theorem new_cell0 (w : World) (cs : Array Value) (t : TypeId) (j : Nat) : (w.alloc (.cells cs t)).cell? ⟨w.heap.size, j, none⟩ = cs[j]? := cell_of_row _ _ _ cs t (0, 0) (heap_alloc_new w _)
/-- .. and the room's cells, at rb -/
def SR (g l p b c A rb : Nat) (w w' : World) : Prop :=
  w'.cell? ⟨g, 0, none⟩ = some (.int .u64 l) ∧ w'.cell? ⟨w.heap.size, 0, none⟩ = some (.int .i64 (qv l A)) ∧ w'.cell? ⟨w.heap.size, 1, none⟩ = some (.int .u64 (rv l A)) ∧ w'.cell? ⟨rb, 0, none⟩ = some (.int .i64 (qv l (room p b c))) ∧ w'.cell? ⟨rb, 1, none⟩ = some (.int .u64 (rv l (room p b c))) ∧ g < w.heap.size ∧ w.heap.size < w'.heap.size ∧ rb < w'.heap.size ∧ Below w.heap.size w w'
theorem SR.of {g l p b c A rb : Nat} {w W : World} (h : SS g l p b A w W) (hr : rb < W.heap.size) (h0 : W.cell? ⟨rb, 0, none⟩ = some (.int .i64 (qv l (room p b c)))) (h1 : W.cell? ⟨rb, 1, none⟩ = some (.int .u64 (rv l (room p b c)))) : SR g l p b c A rb w W :=
  ⟨h.1, h.2.2.2.2.2.1, h.2.2.2.2.2.2.1, h0, h1, h.lg, h.lz, hr, h.below⟩
theorem pair_set (W : World) (rb : Nat) (x0 x1 q r : Value) (h0 : W.cell? ⟨rb, 0, none⟩ = some x0) (h1 : W.cell? ⟨rb, 1, none⟩ = some x1) :
    ((W.setCell ⟨rb, 0, none⟩ q).setCell ⟨rb, 1, none⟩ r).cell? ⟨rb, 0, none⟩ = some q ∧ ((W.setCell ⟨rb, 0, none⟩ q).setCell ⟨rb, 1, none⟩ r).cell? ⟨rb, 1, none⟩ = some r := by
  have a : (W.setCell ⟨rb, 0, none⟩ q).cell? ⟨rb, 1, none⟩ = some x1 := by rw [World.cell?_setCell_other _ _ _ _ (by simp)]; exact h1
  refine ⟨?_, World.cell?_setCell_same' _ _ _ (by rw [a]; rfl)⟩
  rw [World.cell?_setCell_other _ _ _ _ (by simp)]
  exact World.cell?_setCell_same' _ _ _ (by rw [h0]; rfl)
theorem SR.way3 {g l p b c A : Nat} {w w2 : World} (h : SS g l p b A w w2) : SR g l p b c A w2.heap.size w (w2.alloc (.cells #[.int .i64 (qv l (b * p - c * p)), .int .u64 (rv l (b * p - c * p))] 38)) :=
  SR.of (h.alloc _) (by simp) (new_cell0 w2 #[.int .i64 (qv l (b * p - c * p)), .int .u64 (rv l (b * p - c * p))] 38 0) (new_cell0 w2 #[.int .i64 (qv l (b * p - c * p)), .int .u64 (rv l (b * p - c * p))] 38 1)
theorem SR.way2 {g l p b c A : Nat} {w w1 w2 : World} {x0 x1 : Value} (h1 : SS g l p b A w w1) (h2 : SS g l p b A w w2) (hb2 : Below (w1.alloc (.cells #[x0, x1] 38)).heap.size (w1.alloc (.cells #[x0, x1] 38)) w2) :
    SR g l p b c A w1.heap.size w ((w2.setCell ⟨w1.heap.size, 0, none⟩ (.int .i64 (qv l (b * p - c * p)))).setCell ⟨w1.heap.size, 1, none⟩ (.int .u64 (rv l (b * p - c * p)))) := by
  have hz : w1.heap.size < w2.heap.size := by have := hb2.size; simp at this; omega
  have k := fun (b o : Nat) (hlt : b < (w1.alloc (.cells #[x0, x1] 38)).heap.size) => hb2.cell (p := ⟨b, o, none⟩) hlt
  obtain ⟨e0, e1⟩ := pair_set w2 w1.heap.size x0 x1 (.int .i64 (qv l (b * p - c * p))) (.int .u64 (rv l (b * p - c * p))) (by rw [k w1.heap.size 0 (by simp)]; exact new_cell0 w1 #[x0, x1] 38 0) (by rw [k w1.heap.size 1 (by simp)]; exact new_cell0 w1 #[x0, x1] 38 1)
  exact SR.of ((h2.set h1.lz _).set h1.lz _) (by simpa [World.setCell] using hz) e0 e1
theorem SR.way1 {g l p b c A : Nat} {w w1 w2 : World} {x0 x1 : Value} {o : Obj} (h2 : SS g l p b A w w2) (hb1 : Below ((w.alloc o).alloc (.cells #[x0, x1] 38)).drew.heap.size ((w.alloc o).alloc (.cells #[x0, x1] 38)).drew w1) (hb2 : Below w1.heap.size w1 w2) :
    SR g l p b c A (w.heap.size + 1) w ((w2.setCell ⟨w.heap.size + 1, 0, none⟩ (.int .i64 (qv l (b * p - c * p)))).setCell ⟨w.heap.size + 1, 1, none⟩ (.int .u64 (rv l (b * p - c * p)))) := by
  have hz1 : w.heap.size + 1 < w1.heap.size := by have := hb1.size; simp at this; omega
  have hz : w.heap.size + 1 < w2.heap.size := by have := hb2.size; omega
  have es : (w.alloc o).heap.size = w.heap.size + 1 := by simp
  have k2 := fun (b o : Nat) (hlt : b < w1.heap.size) => hb2.cell (p := ⟨b, o, none⟩) hlt
  have k1 := fun (b o' : Nat) (hlt : b < ((w.alloc o).alloc (.cells #[x0, x1] 38)).drew.heap.size) => hb1.cell (p := ⟨b, o', none⟩) hlt
  have nc := new_cell (w.alloc o) #[x0, x1] 38
  rw [es] at nc
  obtain ⟨e0, e1⟩ := pair_set w2 (w.heap.size + 1) x0 x1 (.int .i64 (qv l (b * p - c * p))) (.int .u64 (rv l (b * p - c * p))) (by rw [k2 _ 0 hz1, k1 _ 0 (by simp), nc 0]; rfl) (by rw [k2 _ 1 hz1, k1 _ 1 (by simp), nc 1]; rfl)
  exact SR.of ((h2.set (by omega) _).set (by omega) _) (by simpa [World.setCell] using hz) e0 e1
theorem SR.drew {g l p b c A rb : Nat} {w W : World} (h : SR g l p b c A rb w W) : SR g l p b c A rb w W.drew := by
  obtain ⟨h0, s0, s1, r0, r1, lg, lz, lr, hB⟩ := h
  exact ⟨h0, s0, s1, r0, r1, lg, lz, lr, hB.drew⟩
theorem SR.call {g l p b c A rb : Nat} {w W w1 : World} (h : SR g l p b c A rb w W) (hb : Below W.heap.size W w1) : SR g l p b c A rb w w1 := by
  obtain ⟨h0, s0, s1, r0, r1, lg, lz, lr, hB⟩ := h
  have hs := hB.size
  have hz := hb.size
  have k := fun (b o : Nat) (hlt : b < W.heap.size) => hb.cell (p := ⟨b, o, none⟩) hlt
  exact ⟨by rw [k g 0 (by omega)]; exact h0, by rw [k _ 0 lz]; exact s0, by rw [k _ 1 lz]; exact s1, by rw [k _ 0 lr]; exact r0, by rw [k _ 1 lr]; exact r1, lg, by omega, by omega, below_call hB hb hs⟩
theorem SR.below {g l p b c A rb : Nat} {w W : World} (h : SR g l p b c A rb w W) : Below w.heap.size w W := h.2.2.2.2.2.2.2.2

set_option maxRecDepth 100000 in
set_option maxHeartbeats 1000000 in
theorem turn_queue (g l p b c A : Nat) (f : Fit l p b c) (hA : cv l A ≤ 9223372036854775807) (w : World) (hg : GC g l p b w) :
    Calls Try.prog 38 #[.pointer (some ⟨g, 0, none⟩), .agg #[.int .i64 (qv l A), .int .u64 (rv l A)], .int .i64 c, .bool true] w fun e w' => e = .returned (.tuple #[.int .i64 (waitv l p b c A true), .bool (okv p b c A true)]) ∧ Below w.heap.size w w' := by
  have st := SS.start (A := A) hg
  have F := hide f
  have cb : c < 9223372036854775808 := by have := f.cb; have := f.b2; omega
  have qb := qv_le f.tol f.l0
  have ST := hide st
  clear f hg st
  go_enter Try.func38, Try.ntmps38
  go_upto_region 1 with fail
  go_cut [10] (fun rp wx => ∃ rb, rp = .pointer (some ⟨rb, 0, none⟩) ∧ Hid (SR g l p b c A rb w wx))
  case first =>
    go_region_held3 (fun w' => w'.cell? ⟨g, 0, none⟩ = some (.int .u64 l) ∧ w'.cell? ⟨g, 1, none⟩ = some (.int .u64 p) ∧ w'.cell? ⟨g, 2, none⟩ = some (.int .i64 b) ∧ w'.cell? ⟨g, 3, none⟩ = some (.int .i64 (qv l (b * p))) ∧ w'.cell? ⟨g, 4, none⟩ = some (.int .u64 (rv l (b * p))) ∧ w'.cell? ⟨w.heap.size, 0, none⟩ = some (.int .i64 (qv l A)) ∧ w'.cell? ⟨w.heap.size, 1, none⟩ = some (.int .u64 (rv l A)) ∧ g < w.heap.size ∧ w.heap.size < w'.heap.size ∧ Below w.heap.size w w')
      (first | exact ST.out.drew | exact ST.out.drew.alloc _ | exact S1.out | exact S1.out.alloc _ | exact S2.out | exact S2.out.alloc _ | (refine SS.set (SS.set S2.out ?_ _) ?_ _ <;> first | omega | (simp; omega)))
      (first
        | ((go_at_call 19; refine (interval_any g l p c F.out.l0 F.out.l2 F.out.p2 cb F.out.cost _ ?_ ?_).mono ?_; (simp [*]); (simp [*]); rintro e w1 ⟨rfl, hb1⟩; have S1 : Hid (SS g l p b A w w1) := SS.call (by unfold SS; assumption) hb1; have z1 := S1.out.lz; obtain ⟨hc1, hf1⟩ := bcell hb1; try (have zq : w.heap.size + 1 < w1.heap.size := by have := hb1.size; simp at this; omega)))
        | ((go_at_call 25; refine (sub_any l (b * p) (c * p) F.out.l0 F.out.l2 F.out.cp qb _).mono ?_; rintro e w2 ⟨rfl, hb2⟩; have S2 : Hid (SS g l p b A w w2) := SS.call (by unfold SS; assumption) hb2; have z2 := S2.out.lz; obtain ⟨hc2, hf2⟩ := bcell hb2)))
    all_goals go_wp2_with fail
    all_goals go_meet
    all_goals first
      | exact ⟨_, rfl, SR.way3 S2.out⟩
      | exact ⟨_, rfl, SR.way2 S1.out S2.out hb2⟩
      | exact ⟨_, rfl, SR.way1 S2.out hb1 hb2⟩

  case rest =>
    obtain ⟨rb, rfl, HR⟩ := hcut
    clear ST
    go_wp2_with fail
    go_region_held3 (fun w' => w'.cell? ⟨g, 0, none⟩ = some (.int .u64 l) ∧ w'.cell? ⟨w.heap.size, 0, none⟩ = some (.int .i64 (qv l A)) ∧ w'.cell? ⟨w.heap.size, 1, none⟩ = some (.int .u64 (rv l A)) ∧ w'.cell? ⟨rb, 0, none⟩ = some (.int .i64 (qv l (room p b c))) ∧ w'.cell? ⟨rb, 1, none⟩ = some (.int .u64 (rv l (room p b c))) ∧ g < w.heap.size ∧ w.heap.size < w'.heap.size ∧ rb < w'.heap.size ∧ Below w.heap.size w w')
      (first | exact HR.out.drew | exact R1.out | exact R2.out)
      (first
        | ((go_at_call 27; refine (ceil_any l A F.out.l0 hA _).mono ?_; rintro e w1 ⟨rfl, hb1⟩; have R1 : Hid (SR g l p b c A rb w w1) := SR.call (by unfold SR; assumption) hb1))
        | ((go_at_call 26; refine (less_any l (room p b c) A F.out.l0 _).mono ?_; rintro e w2 ⟨rfl, hb2⟩; have R2 : Hid (SR g l p b c A rb w w2) := SR.call (by unfold SR; assumption) hb2)))
    go_wp2_with fail
    go_ret2
    exact ⟨rfl, R2.out.below⟩
end Go.Proofs.Qxb6612665a.W
