import Derived.Test.Qxb6612665aSpan
import Derived.Deep.RegionWith
import Derived.Deep.RegionHeld3
namespace Go.Proofs.Qxb6612665a.W
open Go.RowKit
set_option linter.unusedVariables false

/-! ### Numbers of two words -/
def hiv (X : Nat) : Int := ((X / 18446744073709551616 : Nat) : Int)
def lov (X : Nat) : Int := ((X % 18446744073709551616 : Nat) : Int)
theorem hiv_nn (X : Nat) : 0 ≤ hiv X := Int.natCast_nonneg _
theorem lov_nn (X : Nat) : 0 ≤ lov X := Int.natCast_nonneg _
theorem lov_lt (X : Nat) : lov X < 18446744073709551616 := by unfold lov; omega
theorem hilo (X : Nat) : hiv X * 18446744073709551616 + lov X = X := by unfold hiv lov; omega

theorem mulX (x y X : Nat) (h : x * y = X) (hx : x < 18446744073709551616) (hy : y < 18446744073709551616) (w : World) :
    Calls Try.prog 30 #[.int .u64 x, .int .u64 y] w fun e w' => e = .returned (.tuple #[.int .u64 (hiv X), .int .u64 (lov X)]) ∧ w = w' := by
  subst h
  exact (mul64 x y hx hy w).mono fun e w' ⟨h, hw⟩ => ⟨h, hw.symm⟩
theorem mul128X (x y X : Nat) (h : x * y = X) (hx : x < 18446744073709551616) (hy : y < 18446744073709551616) (w : World) :
    Calls Try.prog 23 #[.int .u64 x, .int .u64 y] w fun e w' => e = .returned (.tuple #[.int .u64 (hiv X), .int .u64 (lov X)]) ∧ w = w' := by
  subst h
  exact (mul128 x y hx hy w).mono fun e w' ⟨h, hw⟩ => ⟨h, hw.symm⟩
theorem divX (X y : Nat) (hX : X < 18446744073709551616 * y) (hy : y < 9223372036854775808) (w : World) :
    Calls Try.prog 31 #[.int .u64 (hiv X), .int .u64 (lov X), .int .u64 y] w fun e w' => e = .returned (.tuple #[.int .u64 (qv y X), .int .u64 (rv y X)]) ∧ ∃ n, w' = w.drewN n := by
  have h1 : X / 18446744073709551616 < y := Nat.div_lt_of_lt_mul hX
  refine (div64 (X / 18446744073709551616) (X % 18446744073709551616) y h1 (Nat.mod_lt _ (by omega)) hy w).mono ?_
  rintro e w' ⟨rfl, hw⟩
  refine ⟨?_, hw⟩
  rw [Nat.div_add_mod']
  rfl

/-! ### A GCRA in memory -/
def GC (g l p b : Nat) (w : World) : Prop := w.heap[g]? = some (.cells #[.int .u64 l, .int .u64 p, .int .i64 b, .int .i64 (qv l (b * p)), .int .u64 (rv l (b * p))] 65 (0, 0))
theorem GC.c0 {g l p b : Nat} {w : World} (h : GC g l p b w) : w.cell? ⟨g, 0, none⟩ = some (.int .u64 l) := by rw [cell_of_row w g 0 _ 65 (0, 0) h]; rfl
theorem GC.c1 {g l p b : Nat} {w : World} (h : GC g l p b w) : w.cell? ⟨g, 1, none⟩ = some (.int .u64 p) := by rw [cell_of_row w g 1 _ 65 (0, 0) h]; rfl
theorem GC.c2 {g l p b : Nat} {w : World} (h : GC g l p b w) : w.cell? ⟨g, 2, none⟩ = some (.int .i64 b) := by rw [cell_of_row w g 2 _ 65 (0, 0) h]; rfl
theorem GC.c3 {g l p b : Nat} {w : World} (h : GC g l p b w) : w.cell? ⟨g, 3, none⟩ = some (.int .i64 (qv l (b * p))) := by rw [cell_of_row w g 3 _ 65 (0, 0) h]; rfl
theorem GC.c4 {g l p b : Nat} {w : World} (h : GC g l p b w) : w.cell? ⟨g, 4, none⟩ = some (.int .u64 (rv l (b * p))) := by rw [cell_of_row w g 4 _ 65 (0, 0) h]; rfl
theorem GC.lt {g l p b : Nat} {w : World} (h : GC g l p b w) : g < w.heap.size := World.block_lt_of_cell? w ⟨g, 0, none⟩ h.c0
theorem GC.later {g l p b : Nat} {w w' : World} (h : GC g l p b w) (hb : Below w.heap.size w w') : GC g l p b w' := by
  unfold GC; rw [hb.block g h.lt]; exact h
theorem below_call {B : Nat} {w W w1 : World} (h : Below B w W) (hb : Below W.heap.size W w1) (hB : B ≤ W.heap.size) : Below B w w1 := h.trans (hb.mono hB)
theorem new_cell (w : World) (cs : Array Value) (t : TypeId) (j : Nat) : (w.alloc (.cells cs t)).drew.cell? ⟨w.heap.size, j, none⟩ = cs[j]? := cell_of_row _ _ _ cs t (0, 0) (heap_alloc_new w _)
theorem bcell {W w1 : World} (hb : Below W.heap.size W w1) : (∀ b o, b < W.heap.size → w1.cell? ⟨b, o, none⟩ = W.cell? ⟨b, o, none⟩) ∧ (∀ b o, b < W.heap.size → w1.frozen? ⟨b, o, none⟩ = W.frozen? ⟨b, o, none⟩) :=
  ⟨fun b o h => hb.cell (p := ⟨b, o, none⟩) h, fun b o h => hb.frozen (p := ⟨b, o, none⟩) h⟩

set_option maxHeartbeats 1000000 in
theorem interval_any (g l p c : Nat) (hl : 0 < l) (hl2 : l < 9223372036854775808) (hp : p < 9223372036854775808) (hc : c < 9223372036854775808) (hcp : c * p ≤ 9223372036854775807 * l) (w : World)
    (h0 : w.cell? ⟨g, 0, none⟩ = some (.int .u64 l)) (h1 : w.cell? ⟨g, 1, none⟩ = some (.int .u64 p)) :
    Calls Try.prog 19 #[.pointer (some ⟨g, 0, none⟩), .int .i64 c] w fun e w' => e = .returned (.agg #[.int .i64 (qv l (c * p)), .int .u64 (rv l (c * p))]) ∧ Below w.heap.size w w' := by
  obtain ⟨X, hX⟩ : ∃ X, c * p = X := ⟨_, rfl⟩
  rw [hX] at hcp ⊢
  have hq : qv l X ≤ 9223372036854775807 := by
    unfold qv
    have : X / l ≤ 9223372036854775807 := Nat.div_le_of_le_mul (by rw [Nat.mul_comm]; exact hcp)
    omega
  have hq0 := qv_nn l X
  have lg := World.block_lt_of_cell? w _ h0
  have HX := hide hX
  clear hX
  have HC := hide hcp
  clear hcp
  go_enter Try.func19, Try.ntmps19
  go_wp2_with fail
  refine (mulX c p X HX.out (by omega) (by omega) _).mono ?_
  rintro e w1 ⟨rfl, rfl⟩
  go_wp2_with fail
  refine (divX X l (by have := HC.out; omega) hl2 _).mono ?_
  rintro e w1 ⟨rfl, n, rfl⟩
  go_wp2_with fail
  exact bodyPost_ret (v := .agg #[.int .i64 (qv l X), .int .u64 (rv l X)]) (by simp [results, Try.results19, go_sem]) rfl ⟨rfl, ((below_drewN (below1 _ _) _).setCell (Nat.le_refl _) _).setCell (Nat.le_refl _) _⟩

theorem farthest_any (g l p b : Nat) (hb : qv l (b * p) ≤ 9223372036854775807) (w : World) (h : GC g l p b w) :
    Calls Try.prog 16 #[.pointer (some ⟨g, 0, none⟩)] w fun e w' => e = .returned (.int .i64 (9223372036854775807 - qv l (b * p) - 2)) ∧ w = w' := by
  have h3 := h.c3
  have hq := qv_nn l (b * p)
  generalize qv l (b * p) = t at *
  clear h
  go_enter Try.func16, Try.ntmps16
  go_wp2_with fail
  go_ret
  exact ⟨rfl, rfl⟩

/-- what remains: the burst less what is used, in whole requests -/
def remv (p b V : Nat) : Int := if b * p < V then 0 else (b : Int) - cv p V
theorem remv_no {p b V : Nat} (h : b * p < V) : remv p b V = 0 := if_pos h
theorem remv_yes {p b V : Nat} (h : ¬ b * p < V) : remv p b V = (b : Int) - cv p V := if_neg h

set_option maxHeartbeats 1000000 in
theorem rem_over (g l p b V : Nat) (hl : 0 < l) (h : b * p < V) (w : World) (hg : GC g l p b w) :
    Calls Try.prog 29 #[.pointer (some ⟨g, 0, none⟩), .agg #[.int .i64 (qv l V), .int .u64 (rv l V)]] w fun e w' => e = .returned (.int .i64 (remv p b V)) ∧ Below w.heap.size w w' := by
  have h3 := hg.c3
  have h4 := hg.c4
  have lg := hg.lt
  rw [remv_no h]
  have hlt := hide (ltB_yes h)
  have HL := hide hl
  clear hg h
  go_enter Try.func29, Try.ntmps29
  go_wp2_with fail
  have lg1 : g < w.heap.size + 1 := by omega
  go_region_held3 (fun w' => w'.cell? ⟨g, 3, none⟩ = some (.int .i64 (qv l (b * p))) ∧ w'.cell? ⟨g, 4, none⟩ = some (.int .u64 (rv l (b * p))) ∧ w'.cell? ⟨w.heap.size, 0, none⟩ = some (.int .i64 (qv l V)) ∧ w'.cell? ⟨w.heap.size, 1, none⟩ = some (.int .u64 (rv l V)))
    (go_keep)
    ((go_at_call 26; refine (less_any l (b * p) V HL.out _).mono ?_; rintro e w1 ⟨rfl, hb⟩; obtain ⟨hc, hf⟩ := bcell hb; rw [hlt.out]))
  go_wp2_with fail
  go_ret
  exact ⟨rfl, below_call (below1 _ _).drew hb (by simp)⟩

/-- the carry between the two words -/
def carry (l V : Nat) : Int := (((V / l * l % 18446744073709551616 + V % l) / 18446744073709551616 : Nat) : Int)
theorem add_low (l V : Nat) (w : World) : (callFunc 36 #[.int .u64 (lov (V / l * l)), .int .u64 (rv l V), .int .u64 0]).run Try.prog w = .ok (.value (.tuple #[.int .u64 (lov V), .int .u64 (carry l V)])) w := by
  have h := add64 (V / l * l % 18446744073709551616) (V % l) 0 (by omega) w
  have e := Nat.div_add_mod' V l
  have e1 : (V / l * l % 18446744073709551616 + V % l + 0) % 18446744073709551616 = V % 18446744073709551616 := by
    generalize V / l * l = a at *
    generalize V % l = r at *
    omega
  rw [e1] at h
  exact h
theorem carry_sum (l V : Nat) (hV : hiv V < 18446744073709551616) : IntKind.u64.wrap (hiv (V / l * l) + carry l V) = hiv V := by
  have e := Nat.div_add_mod' V l
  have e1 : hiv (V / l * l) + carry l V = hiv V := by
    unfold hiv carry
    generalize V / l * l = a at *
    generalize V % l = r at *
    omega
  rw [e1, IntKind.wrap_u64]
  have := hiv_nn V
  omega

theorem mulQ (l V : Nat) (hq : qv l V ≤ 9223372036854775807) (hl2 : l < 9223372036854775808) (w : World) :
    Calls Try.prog 30 #[.int .u64 (qv l V), .int .u64 l] w fun e w' => e = .returned (.tuple #[.int .u64 (hiv (V / l * l)), .int .u64 (lov (V / l * l))]) ∧ w = w' := by
  have h : V / l < 18446744073709551616 := by unfold qv at hq; omega
  exact mulX (V / l) l (V / l * l) rfl h (by omega) w

set_option maxHeartbeats 400000 in
theorem rem_in (g l p b V : Nat) (hl : 0 < l) (hl2 : l < 9223372036854775808) (hp : 0 < p) (hp2 : p < 9223372036854775808) (hb2 : b < 9223372036854775807) (hq : qv l V ≤ 9223372036854775807) (h : ¬ b * p < V) (w : World) (hg : GC g l p b w) :
    Calls Try.prog 29 #[.pointer (some ⟨g, 0, none⟩), .agg #[.int .i64 (qv l V), .int .u64 (rv l V)]] w fun e w' => e = .returned (.int .i64 (remv p b V)) ∧ Below w.heap.size w w' := by
  have h0 := hg.c0
  have h1 := hg.c1
  have h2 := hg.c2
  have h3 := hg.c3
  have h4 := hg.c4
  have lg := hg.lt
  have q0 := qv_nn l V
  have hVp : V < 18446744073709551616 * p := Nat.lt_of_le_of_lt (Nat.le_of_not_lt h) (Nat.mul_lt_mul_of_pos_right (by omega) hp)
  have hhi : hiv V < 18446744073709551616 := by
    unfold hiv
    have : V / 18446744073709551616 < p := Nat.div_lt_of_lt_mul hVp
    omega
  have HA := hide (add_low l V)
  have hw : IntKind.u64.wrap (qv l V) = qv l V := by rw [IntKind.wrap_u64]; omega
  have CS := hide (carry_sum l V hhi)
  -- the quotient by the period
  have n0 := qv_nn p V
  have r0 := rv_nn p V
  have hn : qv p V ≤ b := by
    unfold qv
    have : V / p ≤ b := Nat.div_le_of_le_mul (by rw [Nat.mul_comm]; omega)
    omega
  have hcb : cv p V ≤ b := by
    unfold cv
    have : (V + (p - 1)) / p ≤ b := by
      rw [Nat.div_le_iff_le_mul_add_pred hp]
      rw [Nat.mul_comm]; omega
    omega
  have C0 := hide (cv_zero p V hp)
  have C1 := hide (cv_pos p V hp)
  rw [remv_yes h]
  have hlt := hide (ltB_no h)
  have HL := hide hl
  have HV := hide hVp
  clear hg h hVp hhi
  have lg1 : g < w.heap.size + 1 := by omega
  go_enter Try.func29, Try.ntmps29
  go_wp2_with fail
  go_region_held3 (fun w' => w'.cell? ⟨g, 3, none⟩ = some (.int .i64 (qv l (b * p))) ∧ w'.cell? ⟨g, 4, none⟩ = some (.int .u64 (rv l (b * p))) ∧ w'.cell? ⟨w.heap.size, 0, none⟩ = some (.int .i64 (qv l V)) ∧ w'.cell? ⟨w.heap.size, 1, none⟩ = some (.int .u64 (rv l V)))
    (go_keep)
    ((go_at_call 26; refine (less_any l (b * p) V HL.out _).mono ?_; rintro e w1 ⟨rfl, hb⟩; obtain ⟨hc, hf⟩ := bcell hb; rw [hlt.out]))
  have HB := hide (below_call (below1 _ _).drew hb (by simp))
  have k0 := (HB.out.cell (p := ⟨g, 0, none⟩) lg).trans h0
  have k1 := (HB.out.cell (p := ⟨g, 1, none⟩) lg).trans h1
  have k2 := (HB.out.cell (p := ⟨g, 2, none⟩) lg).trans h2
  have s0 := (hc w.heap.size 0 (by simp)).trans (new_cell w _ _ 0)
  have s1 := (hc w.heap.size 1 (by simp)).trans (new_cell w _ _ 1)
  simp only [List.getElem?_toArray, List.getElem?_cons_zero, List.getElem?_cons_succ] at s0 s1
  clear hc hf hb h0 h1 h2 h3 h4 lg lg1
  go_wp2_with fail
  go_region_held3 (fun w' => w'.cell? ⟨g, 0, none⟩ = some (.int .u64 l) ∧ w'.cell? ⟨w.heap.size, 0, none⟩ = some (.int .i64 (qv l V)))
    (go_keep)
    ((go_at_call 30; refine (mulQ l V hq hl2 _).mono ?_; rintro e w2 ⟨rfl, rfl⟩))
  have ha := HA.out
  have cs := CS.out
  clear HA CS
  go_wp2_with fail
  refine (divX V p HV.out hp2 _).mono ?_
  rintro e w2 ⟨rfl, n, rfl⟩
  clear ha cs
  by_cases hr : 0 < rv p V
  · have e := hide (C1.out hr)
    clear C0 C1
    rw [e.out] at hcb
    go_wp2_with fail
    go_ret
    exact ⟨by rw [e.out]; go_num, below_drewN HB.out _⟩
  · have e := hide (C0.out (by omega))
    clear C0 C1
    rw [e.out] at hcb
    go_wp2_with fail
    go_ret
    exact ⟨by rw [e.out]; go_num, below_drewN HB.out _⟩

theorem rem_any (g l p b V : Nat) (hl : 0 < l) (hl2 : l < 9223372036854775808) (hp : 0 < p) (hp2 : p < 9223372036854775808) (hb2 : b < 9223372036854775807) (hq : qv l V ≤ 9223372036854775807) (w : World) (hg : GC g l p b w) :
    Calls Try.prog 29 #[.pointer (some ⟨g, 0, none⟩), .agg #[.int .i64 (qv l V), .int .u64 (rv l V)]] w fun e w' => e = .returned (.int .i64 (remv p b V)) ∧ Below w.heap.size w w' := by
  by_cases h : b * p < V
  · exact rem_over g l p b V hl h w hg
  · exact rem_in g l p b V hl hl2 hp hp2 hb2 hq h w hg
end Go.Proofs.Qxb6612665a.W
