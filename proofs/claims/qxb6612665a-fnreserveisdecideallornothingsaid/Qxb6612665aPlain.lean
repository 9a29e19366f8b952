import Derived.Test.Qxb6612665aLawA
namespace Go.Proofs.Qxb6612665a.W
open Go.RowKit
set_option linter.unusedVariables false

theorem adm_all {C : Nat → Chk} {c : Nat} {longest : Int} : ∀ {n : Nat}, adm C c longest n = true → ∀ i, i < n → (C i).alw c longest = true
  | 0, _, i, hi => absurd hi (Nat.not_lt_zero i)
  | n + 1, h, i, hi => by
    simp only [adm, Bool.and_eq_true] at h
    rcases Nat.lt_or_ge i n with h' | h'
    · exact adm_all h.1 i h'
    · have e : i = n := by omega
      subst e
      exact h.2
theorem adm_of {C : Nat → Chk} {c : Nat} {longest : Int} : ∀ {n : Nat}, (∀ i, i < n → (C i).alw c longest = true) → adm C c longest n = true
  | 0, _ => rfl
  | n + 1, h => by
    simp only [adm, Bool.and_eq_true]
    exact ⟨adm_of fun i hi => h i (by omega), h n (by omega)⟩
theorem alw_bounds {k : Chk} {c : Nat} {longest : Int} (h : k.alw c longest = true) : k.ok c = true ∧ k.aft c ≤ longest ∧ k.aft c ≤ farv k.l k.p k.b := by
  unfold Chk.alw inB at h
  simp only [Bool.and_eq_true, decide_eq_true_eq] at h
  exact ⟨h.1, by omega, by omega⟩
theorem alw_mono {k : Chk} {c : Nat} {s l : Int} (hsl : s ≤ l) (h : k.alw c s = true) : k.alw c l = true := by
  obtain ⟨h1, h2, h3⟩ := alw_bounds h
  unfold Chk.alw inB
  simp only [Bool.and_eq_true, decide_eq_true_eq]
  exact ⟨h1, by omega⟩
theorem adm_mono {C : Nat → Chk} {c n : Nat} {s l : Int} (hsl : s ≤ l) (h : adm C c s n = true) : adm C c l n = true := adm_of fun i hi => alw_mono hsl (adm_all h i hi)
theorem del_le {C : Nat → Chk} {c : Nat} {longest : Int} : ∀ {n : Nat}, 0 ≤ longest → (∀ i, i < n → (C i).aft c ≤ longest) → del C c n ≤ longest
  | 0, h0, _ => h0
  | n + 1, h0, h => by
    have := del_le (n := n) h0 fun i hi => h i (Nat.lt_succ_of_lt hi)
    have := h n (by omega)
    simp only [del]
    omega
theorem adm_del {C : Nat → Chk} {c n : Nat} {longest : Int} (hG : ∀ i, i < n → (C i).Good c) (hn : 0 < n) (h : adm C c longest n = true) : 0 ≤ longest ∧ del C c n ≤ longest := by
  have h0 := (Chk.aft_bounds (hG 0 hn)).1
  have h1 := (alw_bounds (adm_all h 0 hn)).2.1
  exact ⟨by omega, del_le (by omega) fun i hi => (alw_bounds (adm_all h i hi)).2.1⟩
theorem cv_le {l V : Nat} {m : Nat} (hl : 0 < l) (h : V ≤ m * l) : cv l V ≤ m := by
  unfold cv
  have : (V + (l - 1)) / l ≤ m := by
    rw [Nat.div_le_iff_le_mul_add_pred hl, Nat.mul_comm]
    omega
  omega
theorem le_cv {l V : Nat} {m : Int} (hl : 0 < l) (h : cv l V ≤ m) : V ≤ m.toNat * l := by
  unfold cv at h
  have h2 : (V + (l - 1)) / l ≤ m.toNat := by omega
  rw [Nat.div_le_iff_le_mul_add_pred hl, Nat.mul_comm] at h2
  omega
theorem lt_cv {l V : Nat} {m : Int} (hl : 0 < l) (h : cv l V < m) : V < m.toNat * l := by
  have h1 := le_cv hl (show cv l V ≤ m - 1 by omega)
  have h2 : m.toNat = (m - 1).toNat + 1 := by
    have : 0 ≤ cv l V := Int.natCast_nonneg _
    omega
  rw [h2, Nat.add_mul]
  omega
/-- the late one is no later than what fits -/
theorem alw_late {k : Chk} {c : Nat} {longest : Int} (hk : k.Good c) (h : k.alw c longest = true) : k.late ≤ 9223372036854775807 ∧ k.aft c = waitv k.l k.p k.b c k.A k.qu + k.late := by
  have h3 := (alw_bounds h).2.2
  have hw := waitv_nn k.l k.p k.b c k.A k.qu
  unfold Chk.aft afterv at h3 ⊢
  by_cases hl : k.late ≤ 9223372036854775807 - waitv k.l k.p k.b c k.A k.qu
  · rw [if_pos hl]; exact ⟨by omega, rfl⟩
  · rw [if_neg hl] at h3
    unfold farv at h3
    have := qv_nn k.l (k.b * k.p)
    omega
/-- AN ADMITTED KEY's NEXT TIME FITS -/
theorem nx_fits {k : Chk} {c : Nat} {longest dl lg : Int} (hk : k.Good c) (h : k.alw c longest = true) (hlg0 : 0 ≤ lg) (hlg : longest ≤ lg) (hdl : dl ≤ longest) (hs : lg.toNat * k.l + (k.b + 1) * k.p ≤ 9223372036854775807 * k.l) :
    cv k.l (k.nx c true dl) ≤ 9223372036854775807 := by
  obtain ⟨hlate, haft⟩ := alw_late hk h
  obtain ⟨hok, hle, _⟩ := alw_bounds h
  have f := hk.fit
  have hl0 := f.l0
  have hcp := f.cp
  have hb1 : k.b * k.p ≤ (k.b + 1) * k.p := Nat.mul_le_mul_right _ (by omega)
  have key : k.nx c true dl ≤ 9223372036854775807 * k.l := by
    unfold Chk.nx
    rw [if_pos rfl]
    by_cases hc : cv k.l k.A < dl - k.late
    · rw [if_pos hc]
      have : (dl - k.late).toNat * k.l ≤ lg.toNat * k.l := Nat.mul_le_mul_right _ (by have := hk.l0; omega)
      omega
    · rw [if_neg hc]
      have hroom : room k.p k.b c = k.b * k.p - c * k.p := rfl
      cases hq : k.qu with
      | true =>
        unfold Chk.ok okv at hok
        rw [hq] at hok
        have : ¬ room k.p k.b c < k.A := by
          intro hx
          rw [if_pos rfl, ltB_yes hx] at hok
          cases hok
        omega
      | false =>
        by_cases hr : room k.p k.b c < k.A
        · have hw : waitv k.l k.p k.b c k.A k.qu = cv k.l (k.A - room k.p k.b c) := by
            unfold waitv; rw [hq]; simp [hr]
          rw [hw] at haft
          have := le_cv hl0 (show cv k.l (k.A - room k.p k.b c) ≤ lg by have := hk.l0; omega)
          omega
        · omega
  exact cv_le hl0 key
/-- A CHARGED KEY's TIME MOVES ON -/
theorem nx_later {k : Chk} {c : Nat} {dl : Int} (hk : k.Good c) : k.A < k.nx c true dl := by
  have f := hk.fit
  have hcp : 0 < c * k.p := Nat.mul_pos f.c0 f.p0
  unfold Chk.nx
  rw [if_pos rfl]
  by_cases hc : cv k.l k.A < dl - k.late
  · rw [if_pos hc]
    have := lt_cv f.l0 hc
    omega
  · rw [if_neg hc]; omega
theorem Ready.later {db d : Nat} {w W : World} (h : Ready db d w) (hb : Below w.heap.size w W) : Ready db d W := fun j hj => by
  have lt := h.lt
  exact ⟨by rw [hb.cell (p := ⟨db, d + j, none⟩) lt]; exact (h j hj).1, by rw [hb.frozen (p := ⟨db, d + j, none⟩) lt]; exact (h j hj).2⟩
/-- RESERVE, UPON TWO NEW ROWS -/
theorem reserve_fresh (C : Nat → Chk) (c n tb : Nat) (longest lg : Int) (hn : n ≤ 8192) (hG : ∀ i, i < n → (C i).Good c) (W : World) (hI : ∀ i, i < n → (C i).In tb (i * 5) W) (ht : tb < W.heap.size) (z5 z2 : Array Value)
    (hlg0 : 0 ≤ lg) (hlg : longest ≤ lg) (hs : ∀ i, i < n → lg.toNat * (C i).l + ((C i).b + 1) * (C i).p ≤ 9223372036854775807 * (C i).l) :
    Calls Try.prog 14 #[.slice (some ⟨W.heap.size, 0, none⟩) n n, .slice (some ⟨W.heap.size + 1, 0, none⟩) n n, .slice (some ⟨tb, 0, none⟩) n n, .int .i64 c, .int .i64 longest] ((W.alloc (.cells (madeCells z5 (n * 5)) 49)).alloc (.cells (madeCells z2 (n * 2)) 38)) fun e w' =>
      e = .returned (.tuple #[.int .i64 (dout (adm C c longest n) (del C c n)), .bool (adm C c longest n)]) ∧ Below W.heap.size W w' ∧ W.heap.size + 1 < w'.heap.size ∧
      (∀ i, i < n → (C i).Dec c longest (adm C c longest n) (del C c n) W.heap.size (i * 5) w') ∧ (∀ i, i < n → (C i).Nxt c (adm C c longest n) (del C c n) (W.heap.size + 1) (i * 2) w') := by
  have e1 : (W.alloc (.cells (madeCells z5 (n * 5)) 49)).heap.size = W.heap.size + 1 := by simp
  have hb2 := below2 W (.cells (madeCells z5 (n * 5)) 49) (.cells (madeCells z2 (n * 2)) 38)
  have hb1 := below1 (W.alloc (.cells (madeCells z5 (n * 5)) 49)) (.cells (madeCells z2 (n * 2)) 38)
  have r2 := fun i (hi : i < n) => made_ready2 (W.alloc (.cells (madeCells z5 (n * 5)) 49)) z2 n 38 i hi
  rw [e1] at r2
  refine (zzreserve_any C c n tb W.heap.size (W.heap.size + 1) longest hn hG _ (fun i hi => (hI i hi).later hb2) (fun i hi => (made_ready W z5 n 49 i hi).later hb1) r2 (by omega) (by omega) (by omega)
    (fun i hi => by have := (hI i hi).gc.lt; exact ⟨by omega, by omega⟩) (by simp; omega) (by simp) ?_).mono ?_
  · intro h i hi
    have hh := adm_all h i hi
    obtain ⟨d0, d1⟩ := adm_del hG (by omega) h
    exact ⟨(alw_late (hG i hi) hh).1, nx_fits (hG i hi) hh hlg0 hlg d1 (hs i hi)⟩
  · rintro e w' ⟨he, hr⟩
    have hs' := hr.ww.size
    have ww := hr.ww
    refine ⟨he, hb2.trans ⟨ww.os, ww.tape, ww.output, ww.size, fun k hk => ww.block k (by simp; omega) (by omega) (by omega)⟩, by simp at hs'; omega, hr.ds, hr.ns⟩
end Go.Proofs.Qxb6612665a.W
