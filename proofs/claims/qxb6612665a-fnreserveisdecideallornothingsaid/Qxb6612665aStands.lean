import Derived.Test.Qxb6612665aMem
namespace Go.Proofs.Qxb6612665a.W
open Go.RowKit
set_option linter.unusedVariables false

/-- the limiter's burst, a span's cells, the result's -/
@[reducible] def LS (g b sb l A : Nat) : List (Nat × Nat × Value) := [(g, 2, .int .i64 b), (sb, 0, .int .i64 (qv l A)), (sb, 1, .int .u64 (rv l A)), (sb + 1, 0, .int .i64 0), (sb + 1, 1, .int .u64 0)]
theorem LS.ne {g b sb l A db : Nat} (h : g ≠ db) (h2 : db < sb) : ∀ x ∈ LS g b sb l A, x.1 ≠ db := by
  intro x hx
  simp only [LS, List.mem_cons, List.not_mem_nil, or_false] at hx
  rcases hx with rfl | rfl | rfl | rfl | rfl
  · exact h
  · exact Nat.ne_of_gt h2
  · exact Nat.ne_of_gt h2
  · exact Nat.ne_of_gt (Nat.lt_succ_of_lt h2)
  · exact Nat.ne_of_gt (Nat.lt_succ_of_lt h2)
theorem LS.start {g l p b A db d : Nat} {w : World} (hg : GC g l p b w) (ld : db < w.heap.size) : HW db d (w.heap.size + 1) w (LS g b w.heap.size l A) ((w.alloc (.cells #[.int .i64 (qv l A), .int .u64 (rv l A)] 38)).alloc (.cells #[.int .i64 0, .int .u64 0] 38)) := by
  have e : (w.alloc (.cells #[.int .i64 (qv l A), .int .u64 (rv l A)] 38)).heap.size = w.heap.size + 1 := by simp
  have hb := below1 (w.alloc (.cells #[.int .i64 (qv l A), .int .u64 (rv l A)] 38)) (.cells #[.int .i64 0, .int .u64 0] 38)
  have n0 := new_cell0 (w.alloc (.cells #[.int .i64 (qv l A), .int .u64 (rv l A)] 38)) #[.int .i64 0, .int .u64 0] 38 0
  have n1 := new_cell0 (w.alloc (.cells #[.int .i64 (qv l A), .int .u64 (rv l A)] 38)) #[.int .i64 0, .int .u64 0] 38 1
  have n2 := Own.new (w.alloc (.cells #[.int .i64 (qv l A), .int .u64 (rv l A)] 38)) #[.int .i64 0, .int .u64 0] 38
  rw [e] at n0 n1 n2 hb
  refine And.intro ((hg.later (below1 w _)).later (by rw [e]; exact hb)).c2 (And.intro ?_ (And.intro ?_ (And.intro n0 (And.intro n1 (And.intro (((Wr.refl db d 5 w ld).alloc _).alloc _) n2)))))
  · show World.cell? _ ⟨w.heap.size, 0, none⟩ = _
    rw [hb.cell (p := ⟨w.heap.size, 0, none⟩) (Nat.lt_succ_self _)]; exact new_cell0 w _ 38 0
  · show World.cell? _ ⟨w.heap.size, 1, none⟩ = _
    rw [hb.cell (p := ⟨w.heap.size, 1, none⟩) (Nat.lt_succ_self _)]; exact new_cell0 w _ 38 1

set_option maxRecDepth 100000 in
set_option maxHeartbeats 1000000 in
theorem stands_any (g l p b c A db d : Nat) (al : Bool) (retry : Int) (f : Fit l p b c) (hA : cv l A ≤ 9223372036854775807) (w : World) (hg : GC g l p b w) (hd : Ready db d w) (hne : g ≠ db) :
    Calls Try.prog 35 #[.pointer (some ⟨g, 0, none⟩), .pointer (some ⟨db, d, none⟩), .agg #[.int .i64 (qv l A), .int .u64 (rv l A)], .bool al, .int .i64 retry] w fun e w' =>
      e = .returned (.agg #[.int .i64 (qv l A), .int .u64 (rv l A)]) ∧ Wr db d 5 w w' ∧ DC db d al b (remv p b A) (if al then 0 else retry) (cv l A) w' := by
  have qA : qv l A ≤ 9223372036854775807 := by have := (cv_bounds l A f.l0).1; omega
  have F := hide f
  have HD := hide hd
  have HG := hide hg
  have ld := hd.lt
  have lg := hg.lt
  have S0 := hide (LS.start (A := A) (d := d) hg ld)
  have hL := hide (LS.ne (l := l) (A := A) (b := b) hne ld)
  clear f hd hg
  go_enter Try.func35, Try.ntmps35
  go_upto_region 1 with fail
  go_region_held3 (fun w' => w'.cell? ⟨g, 2, none⟩ = some (.int .i64 b) ∧ w'.cell? ⟨w.heap.size, 0, none⟩ = some (.int .i64 (qv l A)) ∧ w'.cell? ⟨w.heap.size, 1, none⟩ = some (.int .u64 (rv l A)) ∧ w'.cell? ⟨w.heap.size + 1, 0, none⟩ = some (.int .i64 0) ∧ w'.cell? ⟨w.heap.size + 1, 1, none⟩ = some (.int .u64 0) ∧ Wr db d 5 w w' ∧ Own (w.heap.size + 1) w')
    (first | with_reducible exact S0.out.drew | with_reducible exact S1.out | with_reducible exact S2.out | with_reducible exact S2.out.put5 hL.out _ _ _ _ _)
    (first
      | ((go_at_call 29; refine (rem_any g l p b A F.out.l0 F.out.l2 F.out.p0 F.out.p2 F.out.b2 qA _ ?_).mono ?_; (exact S0.out.wr.drew.gc HG.out hne); rintro e w1 ⟨rfl, hb1⟩; have S1 : Hid (HW db d (w.heap.size + 1) w (LS g b w.heap.size l A) w1) := S0.out.drew.call hb1))
      | ((go_at_call 27; refine (ceil_any l A F.out.l0 hA _).mono ?_; rintro e w2 ⟨rfl, hb2⟩; have S2 : Hid (HW db d (w.heap.size + 1) w (LS g b w.heap.size l A) w2) := S1.out.call hb2; obtain ⟨⟨v0, v1, v2, v3, v4, e0, e1, e2, e3, e4⟩, f0, f1, f2, f3, f4⟩ := S2.out.wr.ready HD.out)))
  have D5 := hide (put5 al b (remv p b A) 0 (cv l A) e0 e1 e2 e3 e4)
  have S5 := hide (S2.out.put5 hL.out (.bool al) (.int .i64 b) (.int .i64 (remv p b A)) (.int .i64 0) (.int .i64 (cv l A)))
  clear e0 e1 e2 e3 e4 f0 f1 f2 f3 f4 hb1 hb2
  rename_i hHeld
  clear hHeld
  generalize ((((w2.setCell { block := db, off := d } (Value.bool al)).setCell { block := db, off := d + 1 } (Value.int IntKind.i64 ↑b)).setCell { block := db, off := d + 2 } (Value.int IntKind.i64 (remv p b A))).setCell { block := db, off := d + 3 } (Value.int IntKind.i64 0)).setCell { block := db, off := d + 4 } (Value.int IntKind.i64 (cv l A)) = W5 at *
  obtain ⟨k2, s0, s1, r0, r1, _, ow⟩ := S5.out
  have d3 := D5.out.c3
  obtain ⟨_, f0, f1, f2, f3, f4⟩ := S5.out.wr.ready HD.out
  have fr := ow.2
  clear ow f0 f1 f2 f4 S0 S1 S2
  have T0 : Hid (((W5.setCell ⟨w.heap.size + 1, 0, none⟩ (Value.int IntKind.i64 (qv l A))).setCell ⟨w.heap.size + 1, 1, none⟩ (Value.int IntKind.u64 (rv l A))).cell? ⟨w.heap.size + 1, 0, none⟩ = some (Value.int IntKind.i64 (qv l A))) := (pair_set W5 _ _ _ _ _ r0 r1).1
  cases al with
  | true =>
    go_wp2_with fail
    exact bodyPost_ret (v := .agg #[.int .i64 (qv l A), .int .u64 (rv l A)]) (by simp [results, Try.results35, go_sem, r0, r1]) rfl ⟨rfl, (S5.out.wr.own (by simp) _).own (by simp) _, (D5.out.own (by simp; omega) _).own (by simp; omega) _⟩
  | false =>
    go_wp2_with fail
    exact bodyPost_ret (v := .agg #[.int .i64 (qv l A), .int .u64 (rv l A)]) (by simp [results, Try.results35, go_sem, r0, r1]) rfl ⟨rfl, ((S5.out.wr.put (by omega) (by omega) _).own (by simp) _).own (by simp) _, ((D5.out.put3 retry).own (by simp; omega) _).own (by simp; omega) _⟩
end Go.Proofs.Qxb6612665a.W
