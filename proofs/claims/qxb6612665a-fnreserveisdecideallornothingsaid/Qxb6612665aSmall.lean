import Derived.Test.Qxb6612665aReserve
namespace Go.Proofs.Qxb6612665a.W
open Go.RowKit
set_option linter.unusedVariables false

set_option maxRecDepth 100000 in
set_option maxHeartbeats 1000000 in
theorem zzreserve_any (C : Nat → Chk) (c n tb db nb : Nat) (longest : Int) (hn : n ≤ 8192) (hG : ∀ i, i < n → (C i).Good c) (w : World) (hI : ∀ i, i < n → (C i).In tb (i * 5) w)
    (hD : ∀ i, i < n → Ready db (i * 5) w) (hN : ∀ i, i < n → Ready2 nb (i * 2) w) (hdn : db ≠ nb) (htd : tb ≠ db) (htn : tb ≠ nb) (hg : ∀ i, i < n → (C i).g ≠ db ∧ (C i).g ≠ nb) (ld : db < w.heap.size) (ln : nb < w.heap.size)
    (hT : adm C c longest n = true → ∀ i, i < n → (C i).late ≤ 9223372036854775807 ∧ cv (C i).l ((C i).nx c true (del C c n)) ≤ 9223372036854775807) :
    Calls Try.prog 14 #[.slice (some ⟨db, 0, none⟩) n n, .slice (some ⟨nb, 0, none⟩) n n, .slice (some ⟨tb, 0, none⟩) n n, .int .i64 c, .int .i64 longest] w fun e w' =>
      e = .returned (.tuple #[.int .i64 (dout (adm C c longest n) (del C c n)), .bool (adm C c longest n)]) ∧ RS C c longest (adm C c longest n) (del C c n) db nb n w w' := by
  have key := hide (reserve_any C c n tb db nb longest hn hG w hI hD hN hdn htd htn hg ld ln hT)
  clear hG hI hD hN hg hT
  go_enter Try.func14, Try.ntmps14
  go_wp2_with (go_at_call 24; refine (key.out).mono ?_; rintro e w1 ⟨rfl, hr⟩)
  go_ret2
  exact ⟨rfl, hr⟩

set_option maxRecDepth 100000 in
set_option maxHeartbeats 1000000 in
theorem newgcra_any (l p b : Nat) (hl : 0 < l) (hl2 : l < 9223372036854775808) (hp : p < 9223372036854775808) (hb : b < 9223372036854775808) (hbp : b * p ≤ 9223372036854775807 * l) (w : World) :
    Calls Try.prog 13 #[.int .u64 l, .int .u64 p, .int .i64 b] w fun e w' =>
      e = .returned (.pointer (some ⟨w.heap.size, 0, none⟩)) ∧ Below w.heap.size w w' ∧ GC w.heap.size l p b w' := by
  have h0 := new_cell0 w #[.int .u64 l, .int .u64 p, .int .i64 b, .int .i64 0, .int .u64 0] 65
  have b0 := below1 w (.cells #[.int .u64 l, .int .u64 p, .int .i64 b, .int .i64 0, .int .u64 0] 65)
  have hw := hide (heap_alloc_new w (.cells #[.int .u64 l, .int .u64 p, .int .i64 b, .int .i64 0, .int .u64 0] 65))
  have o0 := hide (Own.new w #[.int .u64 l, .int .u64 p, .int .i64 b, .int .i64 0, .int .u64 0] 65)
  have H0 := hide (h0 0)
  have H1 := hide (h0 1)
  have H3 := hide (h0 3)
  have H4 := hide (h0 4)
  have B0 := hide b0
  clear h0 b0
  go_enter Try.func13, Try.ntmps13
  go_wp2_with (go_at_call 19; refine (interval_any w.heap.size l p b hl hl2 hp hb hbp _ H0.out H1.out).mono ?_; rintro e w1 ⟨rfl, hb1⟩; have k3 := (hb1.cell (p := ⟨w.heap.size, 3, none⟩) (by show w.heap.size < _; simp)).trans H3.out; have k4 := (hb1.cell (p := ⟨w.heap.size, 4, none⟩) (by show w.heap.size < _; simp)).trans H4.out; have fr := (o0.out.call hb1).2; have HB1 := hide hb1; clear hb1)
  have hw1 := (HB1.out.block w.heap.size (by show w.heap.size < _; simp)).trans hw.out
  have e3 := heap_setCell_same w1 w.heap.size 3 _ 65 (.int .i64 (qv l (b * p))) hw1
  have e4 := heap_setCell_same _ w.heap.size 4 _ 65 (.int .u64 (rv l (b * p))) e3
  have bb := hide ((((B0.out.trans (HB1.out.mono (by simp))).setCell (p := ⟨w.heap.size, 3, none⟩) (Nat.le_refl _) (.int .i64 (qv l (b * p)))).setCell (p := ⟨w.heap.size, 4, none⟩) (Nat.le_refl _) (.int .u64 (rv l (b * p)))))
  have E4 := hide e4
  clear e3 e4 hw1
  go_ret
  exact ⟨rfl, bb.out, E4.out⟩

set_option maxHeartbeats 1000000 in
theorem zzless_any (l A B : Nat) (hl : 0 < l) (w : World) :
    Calls Try.prog 32 #[.agg #[.int .i64 (qv l A), .int .u64 (rv l A)], .agg #[.int .i64 (qv l B), .int .u64 (rv l B)]] w fun e w' => e = .returned (.bool (ltB A B)) ∧ Below w.heap.size w w' := by
  by_cases h1 : qv l A = qv l B
  · have h4 : (qv l A != qv l B) = false := by rw [h1]; simp
    by_cases h : A < B
    · have h2 : rv l A < rv l B := by rcases (less_iff l A B hl).1 h with h' | h'
                                      · omega
                                      · exact h'.2
      rw [ltB_yes h]
      clear h h1
      go_enter Try.func32, Try.ntmps32
      go_wp2
      go_ret
      exact ⟨by simp, below2 _ _ _⟩
    · have h2 : ¬ rv l A < rv l B := fun hx => h ((less_iff l A B hl).2 (.inr ⟨h1, hx⟩))
      rw [ltB_no h]
      clear h h1
      go_enter Try.func32, Try.ntmps32
      go_wp2
      go_ret
      exact ⟨by simp, below2 _ _ _⟩
  · have h4 : (qv l A != qv l B) = true := by simp [h1]
    by_cases h : A < B
    · have h2 : qv l A < qv l B := by rcases (less_iff l A B hl).1 h with h' | h'
                                      · exact h'
                                      · exact absurd h'.1 h1
      rw [ltB_yes h]
      clear h h1
      go_enter Try.func32, Try.ntmps32
      go_wp2
      go_ret
      exact ⟨by simp, below2 _ _ _⟩
    · have h2 : ¬ qv l A < qv l B := fun hx => h ((less_iff l A B hl).2 (.inl hx))
      rw [ltB_no h]
      clear h h1
      go_enter Try.func32, Try.ntmps32
      go_wp2
      go_ret
      exact ⟨by simp, below2 _ _ _⟩

set_option maxRecDepth 100000 in
set_option maxHeartbeats 1000000 in
theorem charged_yes (l A X : Nat) (hl : 0 < l) (h : A < X) (w : World) :
    Calls Try.prog 21 #[.bool true, .bool true, .agg #[.int .i64 (qv l A), .int .u64 (rv l A)], .agg #[.int .i64 (qv l X), .int .u64 (rv l X)]] w fun e w' => e = .returned (.bool true) ∧ Below w.heap.size w w' := by
  have H := hide (ltB_yes h)
  clear h
  go_enter Try.func21, Try.ntmps21
  go_wp2_with (go_at_call 32; refine (zzless_any l A X hl _).mono ?_; rintro e w1 ⟨rfl, hb1⟩; rw [H.out]; have B1 := hide (below_call (below2 w _ _) hb1 (by simp; omega)); clear hb1)
  go_ret
  exact ⟨rfl, B1.out⟩
set_option maxRecDepth 100000 in
set_option maxHeartbeats 1000000 in
theorem charged_no (al : Bool) (q r : Int) (w : World) :
    Calls Try.prog 21 #[.bool false, .bool al, .agg #[.int .i64 q, .int .u64 r], .agg #[.int .i64 q, .int .u64 r]] w fun e w' => e = .returned (.bool true) ∧ Below w.heap.size w w' := by
  go_enter Try.func21, Try.ntmps21
  go_wp2_with fail
  go_ret
  exact ⟨by simp, below2 _ _ _⟩
end Go.Proofs.Qxb6612665a.W
