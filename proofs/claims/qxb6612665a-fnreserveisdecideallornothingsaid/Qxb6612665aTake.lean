import Derived.Test.Qxb6612665aStands
namespace Go.Proofs.Qxb6612665a.W
open Go.RowKit
set_option linter.unusedVariables false

/-- the limiter's cells, the box fb's -/
@[reducible] def LT (g l p b fb F : Nat) : List (Nat × Nat × Value) := [(g, 0, .int .u64 l), (g, 1, .int .u64 p), (g, 2, .int .i64 b), (fb, 0, .int .i64 (qv l F)), (fb, 1, .int .u64 (rv l F))]
/-- .. and the result's -/
@[reducible] def LR (g l p b fb F rb : Nat) (x y : Value) : List (Nat × Nat × Value) := [(rb, 0, x), (rb, 1, y), (g, 0, .int .u64 l), (g, 1, .int .u64 p), (g, 2, .int .i64 b), (fb, 0, .int .i64 (qv l F)), (fb, 1, .int .u64 (rv l F))]
theorem LT.ne {g l p b fb F db : Nat} (h : g ≠ db) (h2 : fb ≠ db) : ∀ x ∈ LT g l p b fb F, x.1 ≠ db := by
  intro x hx
  simp only [LT, List.mem_cons, List.not_mem_nil, or_false] at hx
  rcases hx with rfl | rfl | rfl | rfl | rfl
  · exact h
  · exact h
  · exact h
  · exact h2
  · exact h2
/-- the burst and the result's cells -/
@[reducible] def LN (g b rb l X : Nat) : List (Nat × Nat × Value) := [(g, 2, .int .i64 b), (rb, 0, .int .i64 (qv l X)), (rb, 1, .int .u64 (rv l X))]
theorem LN.ne {g b rb l X db : Nat} (h : g ≠ db) (h2 : rb ≠ db) : ∀ x ∈ LN g b rb l X, x.1 ≠ db := by
  intro x hx
  simp only [LN, List.mem_cons, List.not_mem_nil, or_false] at hx
  rcases hx with rfl | rfl | rfl
  · exact h
  · exact h2
  · exact h2
/-- the result is stored -/
theorem LN.stored {db d rb g l p b fb F X : Nat} {w W : World} {x y : Value} (h : HW db d rb w (LR g l p b fb F rb x y) W) (hr : w.heap.size ≤ rb) (hg : g ≠ rb) :
    HW db d rb w (LN g b rb l X) ((W.setCell ⟨rb, 0, none⟩ (.int .i64 (qv l X))).setCell ⟨rb, 1, none⟩ (.int .u64 (rv l X))) := by
  have h' := h
  obtain ⟨r0, r1, g0, g1, g2, _⟩ := h'
  have ps := pair_set W rb x y (.int .i64 (qv l X)) (.int .u64 (rv l X)) r0 r1
  refine And.intro ?_ (And.intro ps.1 (And.intro ps.2 (And.intro ((h.wr.own hr _).own hr _) ((h.mine.set _ _).set _ _))))
  show World.cell? _ ⟨g, 2, none⟩ = _
  rw [World.cell?_setCell_other _ _ _ _ (by intro e; injection e; omega), World.cell?_setCell_other _ _ _ _ (by intro e; injection e; omega)]
  exact g2

theorem qv_whole (l n : Nat) (hl : 0 < l) : qv l (n * l) = n := by unfold qv; rw [Nat.mul_div_cancel _ hl]
theorem rv_whole (l n : Nat) : rv l (n * l) = 0 := by unfold rv; rw [Nat.mul_mod_left]; rfl

theorem LR.start {g l p b A db d : Nat} {w : World} (hg : GC g l p b w) (ld : db < w.heap.size) :
    HW db d (w.heap.size + 1) w (LR g l p b (w.heap.size + 1 + 1) A (w.heap.size + 1) (.int .i64 0) (.int .u64 0)) (((w.alloc (.cells #[.int .i64 (qv l A), .int .u64 (rv l A)] 38)).alloc (.cells #[.int .i64 0, .int .u64 0] 38)).alloc (.cells #[.int .i64 (qv l A), .int .u64 (rv l A)] 38)) ∧
    Own (w.heap.size + 1 + 1) (((w.alloc (.cells #[.int .i64 (qv l A), .int .u64 (rv l A)] 38)).alloc (.cells #[.int .i64 0, .int .u64 0] 38)).alloc (.cells #[.int .i64 (qv l A), .int .u64 (rv l A)] 38)) := by
  obtain ⟨W1, hW1⟩ : ∃ W1, W1 = (w.alloc (.cells #[.int .i64 (qv l A), .int .u64 (rv l A)] 38)).alloc (.cells #[.int .i64 0, .int .u64 0] 38) := ⟨_, rfl⟩
  have e : W1.heap.size = w.heap.size + 1 + 1 := by rw [hW1]; simp
  have st := (LS.start (A := A) (d := d) hg ld).alloc (.cells #[.int .i64 (qv l A), .int .u64 (rv l A)] 38)
  have hb : Below w.heap.size w (W1.alloc (.cells #[.int .i64 (qv l A), .int .u64 (rv l A)] 38)) := by rw [hW1]; exact below3 w _ _ _
  rw [← hW1] at st ⊢
  have n0 := new_cell0 W1 #[.int .i64 (qv l A), .int .u64 (rv l A)] 38 0
  have n1 := new_cell0 W1 #[.int .i64 (qv l A), .int .u64 (rv l A)] 38 1
  have n2 := Own.new W1 #[.int .i64 (qv l A), .int .u64 (rv l A)] 38
  rw [e] at n0 n1 n2
  have hg' := hg.later hb
  have wr := st.wr
  have ow := st.mine
  obtain ⟨_, _, _, r0, r1, _⟩ := st
  exact ⟨And.intro r0 (And.intro r1 (And.intro hg'.c0 (And.intro hg'.c1 (And.intro hg'.c2 (And.intro n0 (And.intro n1 (And.intro wr ow))))))), n2⟩
theorem LR.moved {db d rb g l p b fb A : Nat} {at' : Int} {w W : World} {x y : Value} (h : HW db d rb w (LR g l p b fb A rb x y) W) (hr : w.heap.size ≤ fb) (hg : g ≠ fb) (hrf : rb ≠ fb) (hl : 0 < l) (ha : 0 ≤ at') :
    HW db d rb w (LR g l p b fb (at'.toNat * l) rb x y) ((W.setCell ⟨fb, 0, none⟩ (.int .i64 at')).setCell ⟨fb, 1, none⟩ (.int .u64 0)) := by
  have h' := h
  obtain ⟨r0, r1, g0, g1, g2, f0, f1, _⟩ := h'
  have ps := pair_set W fb _ _ (.int .i64 at') (.int .u64 0) f0 f1
  have e : qv l (at'.toNat * l) = at' := by rw [qv_whole _ _ hl]; omega
  have e2 := rv_whole l at'.toNat
  have o := fun (q : Nat) (hq : q ≠ fb) (i : Nat) => show ((W.setCell ⟨fb, 0, none⟩ (.int .i64 at')).setCell ⟨fb, 1, none⟩ (.int .u64 0)).cell? ⟨q, i, none⟩ = W.cell? ⟨q, i, none⟩ by
    rw [World.cell?_setCell_other _ _ _ _ (by intro e; injection e; omega), World.cell?_setCell_other _ _ _ _ (by intro e; injection e; omega)]
  refine And.intro ((o rb hrf 0).trans r0) (And.intro ((o rb hrf 1).trans r1) (And.intro ((o g hg 0).trans g0) (And.intro ((o g hg 1).trans g1) (And.intro ((o g hg 2).trans g2) (And.intro ?_ (And.intro ?_ (And.intro ((h.wr.own hr _).own hr _) ((h.mine.set _ _).set _ _))))))))
  · show World.cell? _ ⟨fb, 0, none⟩ = some (.int .i64 (qv l (at'.toNat * l))); rw [e]; exact ps.1
  · show World.cell? _ ⟨fb, 1, none⟩ = some (.int .u64 (rv l (at'.toNat * l))); rw [e2]; exact ps.2
/-- what is held, without the result's cells -/
theorem LR.tail {db d rb g l p b fb F : Nat} {w W : World} {x y : Value} (h : HW db d rb w (LR g l p b fb F rb x y) W) : HW db d rb w (LT g l p b fb F) W := h.2.2

set_option maxRecDepth 100000 in
set_option maxHeartbeats 1000000 in
theorem take_any (g l p b c A X db d : Nat) (at' : Int) (f : Fit l p b c) (hA : cv l A ≤ 9223372036854775807) (hX : X = (if cv l A < at' then at'.toNat * l else A) + c * p) (hXc : cv l X ≤ 9223372036854775807) (w : World) (hg : GC g l p b w) (hd : Ready db d w) (hne : g ≠ db) :
    Calls Try.prog 34 #[.pointer (some ⟨g, 0, none⟩), .pointer (some ⟨db, d, none⟩), .agg #[.int .i64 (qv l A), .int .u64 (rv l A)], .int .i64 at', .int .i64 c] w fun e w' =>
      e = .returned (.agg #[.int .i64 (qv l X), .int .u64 (rv l X)]) ∧ Wr db d 5 w w' ∧ DC db d true b (remv p b X) 0 (cv l X) w' := by
  have c0 := Int.le_trans (qv_nn l A) (cv_bounds l A f.l0).1
  have qX : qv l X ≤ 9223372036854775807 := by have := (cv_bounds l X f.l0).1; omega
  have cb : c < 9223372036854775808 := by have := f.cb; have := f.b2; omega
  have F := hide f
  have HD := hide hd
  have HG := hide hg
  have ld := hd.lt
  have lg := hg.lt
  have S0 := hide (LR.start (A := A) (d := d) hg ld)
  have N1 : Hid (g ≠ w.heap.size + 1) := Nat.ne_of_lt (Nat.lt_succ_of_lt lg)
  have N2 : Hid (g ≠ w.heap.size + 1 + 1) := Nat.ne_of_lt (Nat.lt_succ_of_lt (Nat.lt_succ_of_lt lg))
  have hq : Hid (w.heap.size ≤ w.heap.size + 1) := Nat.le_succ _
  obtain ⟨F', hF'⟩ : ∃ F', (if cv l A < at' then at'.toNat * l else A) = F' := ⟨_, rfl⟩
  rw [hF'] at hX
  have HX := hide hX
  have HF := hide hF'
  have hLr := hide (LT.ne (l := l) (p := p) (b := b) (F := F') N1.out (show w.heap.size + 1 + 1 ≠ w.heap.size + 1 by omega))
  have hLn := hide (LN.ne (l := l) (X := X) (b := b) hne (show w.heap.size + 1 ≠ db by omega))
  clear f hd hg hX hF'
  have key : ∀ W4, HW db d (w.heap.size + 1) w (LR g l p b (w.heap.size + 1 + 1) F' (w.heap.size + 1) (.int .i64 0) (.int .u64 0)) W4 → Hid (HW db d (w.heap.size + 1) w (LR g l p b (w.heap.size + 1 + 1) F' (w.heap.size + 1) (.int .i64 0) (.int .u64 0)) W4) := fun _ h => h
  go_enter Try.func34, Try.ntmps34
  by_cases ht : cv l A < at'
  · have e : Hid (F' = at'.toNat * l) := by have := HF.out; rw [if_pos ht] at this; exact this.symm
    go_upto_region 4 with (go_at_call 27; refine (ceil_any l A F.out.l0 hA _).mono ?_; rintro e w1 ⟨rfl, hb1⟩; have X1 := hide (S0.out.1.call hb1); have O1 := hide (S0.out.2.call hb1); obtain ⟨-, -, -, -, -, t0, t1, -⟩ := X1.out; have t2 := O1.out.2)
    have X4 := key ((w1.setCell ⟨w.heap.size + 1 + 1, 0, none⟩ (.int .i64 at')).setCell ⟨w.heap.size + 1 + 1, 1, none⟩ (.int .u64 0)) (by rw [e.out]; exact LR.moved X1.out (by omega) N2.out (by omega) F.out.l0 (by omega))
    clear X1 O1 hb1 t0 t1 t2 S0 key ht e HF
    generalize (w1.setCell ⟨w.heap.size + 1 + 1, 0, none⟩ (.int .i64 at')).setCell ⟨w.heap.size + 1 + 1, 1, none⟩ (.int .u64 0) = W4 at *
    have K4 := hide (LR.tail X4.out)
    go_region_held3 (fun w' => w'.cell? ⟨g, 0, none⟩ = some (.int .u64 l) ∧ w'.cell? ⟨g, 1, none⟩ = some (.int .u64 p) ∧ w'.cell? ⟨g, 2, none⟩ = some (.int .i64 b) ∧ w'.cell? ⟨w.heap.size + 1 + 1, 0, none⟩ = some (.int .i64 (qv l F')) ∧ w'.cell? ⟨w.heap.size + 1 + 1, 1, none⟩ = some (.int .u64 (rv l F')) ∧ Wr db d 5 w w' ∧ Own (w.heap.size + 1) w')
      (first | with_reducible exact K4.out.drew | with_reducible exact K5.out | with_reducible exact K6.out | with_reducible exact K6.out.own2 _ hLr.out hq.out _ _)
      (first
        | ((go_at_call 19; refine (interval_any g l p c F.out.l0 F.out.l2 F.out.p2 cb F.out.cost _ ?_ ?_).mono ?_; (exact K4.out.drew.1); (exact K4.out.drew.2.1); rintro e w5 ⟨rfl, hb5⟩; have X5 := hide (X4.out.drew.call hb5); have K5 := hide (LR.tail X5.out)))
        | ((go_at_call 28; refine (add_any l F' (c * p) F.out.l0 F.out.l2 (by rw [← HX.out]; exact qX) _).mono ?_; rintro e w6 ⟨rfl, hb6⟩; rw [← HX.out]; have X6 := hide (X5.out.call hb6); have K6 := hide (LR.tail X6.out); obtain ⟨r0, r1, -⟩ := X6.out; have r2 := X6.out.mine.2)))
    have S7 := hide (LN.stored (X := X) X6.out hq.out N1.out)
    clear X4 X5 X6 K4 K5 K6 hb5 hb6 r0 r1 r2
    rename_i hHeld
    clear hHeld
    generalize (w6.setCell ⟨w.heap.size + 1, 0, none⟩ (.int .i64 (qv l X))).setCell ⟨w.heap.size + 1, 1, none⟩ (.int .u64 (rv l X)) = W7 at *
    go_upto_region 5 with fail
    go_region_held3 (fun w' => w'.cell? ⟨g, 2, none⟩ = some (.int .i64 b) ∧ w'.cell? ⟨w.heap.size + 1, 0, none⟩ = some (.int .i64 (qv l X)) ∧ w'.cell? ⟨w.heap.size + 1, 1, none⟩ = some (.int .u64 (rv l X)) ∧ Wr db d 5 w w' ∧ Own (w.heap.size + 1) w')
      (first | with_reducible exact S7.out.drew | with_reducible exact S8.out | with_reducible exact S9.out | with_reducible exact S9.out.put5 hLn.out _ _ _ _ _)
      (first
        | ((go_at_call 29; refine (rem_any g l p b X F.out.l0 F.out.l2 F.out.p0 F.out.p2 F.out.b2 qX _ ?_).mono ?_; (exact S7.out.wr.drew.gc HG.out hne); rintro e w8 ⟨rfl, hb8⟩; have S8 := hide (S7.out.drew.call hb8)))
        | ((go_at_call 27; refine (ceil_any l X F.out.l0 hXc _).mono ?_; rintro e w9 ⟨rfl, hb9⟩; have S9 := hide (S8.out.call hb9); obtain ⟨⟨v0, v1, v2, v3, v4, e0, e1, e2, e3, e4⟩, f0, f1, f2, f3, f4⟩ := S9.out.wr.ready HD.out)))
    have D5 := hide (put5 true b (remv p b X) 0 (cv l X) e0 e1 e2 e3 e4)
    have S5 := hide (S9.out.put5 hLn.out (.bool true) (.int .i64 b) (.int .i64 (remv p b X)) (.int .i64 0) (.int .i64 (cv l X)))
    clear e0 e1 e2 e3 e4 f0 f1 f2 f3 f4 hb8 hb9 S7 S8 S9
    rename_i hHeld
    clear hHeld
    generalize ((((w9.setCell { block := db, off := d } (Value.bool true)).setCell { block := db, off := d + 1 } (Value.int IntKind.i64 ↑b)).setCell { block := db, off := d + 2 } (Value.int IntKind.i64 (remv p b X))).setCell { block := db, off := d + 3 } (Value.int IntKind.i64 0)).setCell { block := db, off := d + 4 } (Value.int IntKind.i64 (cv l X)) = W5 at *
    obtain ⟨-, r0, r1, -, ow⟩ := S5.out
    have fr := ow.2
    clear ow
    go_wp2_with fail
    exact bodyPost_ret (v := .agg #[.int .i64 (qv l X), .int .u64 (rv l X)]) (by simp [results, Try.results34, go_sem, r0, r1]) rfl ⟨rfl, (S5.out.wr.own (by simp) _).own (by simp) _, (D5.out.own (by simp; omega) _).own (by simp; omega) _⟩
  · have e : Hid (F' = A) := by have := HF.out; rw [if_neg ht] at this; exact this.symm
    go_upto_region 4 with (go_at_call 27; refine (ceil_any l A F.out.l0 hA _).mono ?_; rintro e w1 ⟨rfl, hb1⟩; have X1 := hide (S0.out.1.call hb1); have O1 := hide (S0.out.2.call hb1); obtain ⟨-, -, -, -, -, t0, t1, -⟩ := X1.out; have t2 := O1.out.2)
    have X4 := key w1 (by rw [e.out]; exact X1.out)
    clear X1 O1 hb1 t0 t1 t2 S0 key ht e HF
    generalize w1 = W4 at *
    have K4 := hide (LR.tail X4.out)
    go_region_held3 (fun w' => w'.cell? ⟨g, 0, none⟩ = some (.int .u64 l) ∧ w'.cell? ⟨g, 1, none⟩ = some (.int .u64 p) ∧ w'.cell? ⟨g, 2, none⟩ = some (.int .i64 b) ∧ w'.cell? ⟨w.heap.size + 1 + 1, 0, none⟩ = some (.int .i64 (qv l F')) ∧ w'.cell? ⟨w.heap.size + 1 + 1, 1, none⟩ = some (.int .u64 (rv l F')) ∧ Wr db d 5 w w' ∧ Own (w.heap.size + 1) w')
      (first | with_reducible exact K4.out.drew | with_reducible exact K5.out | with_reducible exact K6.out | with_reducible exact K6.out.own2 _ hLr.out hq.out _ _)
      (first
        | ((go_at_call 19; refine (interval_any g l p c F.out.l0 F.out.l2 F.out.p2 cb F.out.cost _ ?_ ?_).mono ?_; (exact K4.out.drew.1); (exact K4.out.drew.2.1); rintro e w5 ⟨rfl, hb5⟩; have X5 := hide (X4.out.drew.call hb5); have K5 := hide (LR.tail X5.out)))
        | ((go_at_call 28; refine (add_any l F' (c * p) F.out.l0 F.out.l2 (by rw [← HX.out]; exact qX) _).mono ?_; rintro e w6 ⟨rfl, hb6⟩; rw [← HX.out]; have X6 := hide (X5.out.call hb6); have K6 := hide (LR.tail X6.out); obtain ⟨r0, r1, -⟩ := X6.out; have r2 := X6.out.mine.2)))
    have S7 := hide (LN.stored (X := X) X6.out hq.out N1.out)
    clear X4 X5 X6 K4 K5 K6 hb5 hb6 r0 r1 r2
    rename_i hHeld
    clear hHeld
    generalize (w6.setCell ⟨w.heap.size + 1, 0, none⟩ (.int .i64 (qv l X))).setCell ⟨w.heap.size + 1, 1, none⟩ (.int .u64 (rv l X)) = W7 at *
    go_upto_region 5 with fail
    go_region_held3 (fun w' => w'.cell? ⟨g, 2, none⟩ = some (.int .i64 b) ∧ w'.cell? ⟨w.heap.size + 1, 0, none⟩ = some (.int .i64 (qv l X)) ∧ w'.cell? ⟨w.heap.size + 1, 1, none⟩ = some (.int .u64 (rv l X)) ∧ Wr db d 5 w w' ∧ Own (w.heap.size + 1) w')
      (first | with_reducible exact S7.out.drew | with_reducible exact S8.out | with_reducible exact S9.out | with_reducible exact S9.out.put5 hLn.out _ _ _ _ _)
      (first
        | ((go_at_call 29; refine (rem_any g l p b X F.out.l0 F.out.l2 F.out.p0 F.out.p2 F.out.b2 qX _ ?_).mono ?_; (exact S7.out.wr.drew.gc HG.out hne); rintro e w8 ⟨rfl, hb8⟩; have S8 := hide (S7.out.drew.call hb8)))
        | ((go_at_call 27; refine (ceil_any l X F.out.l0 hXc _).mono ?_; rintro e w9 ⟨rfl, hb9⟩; have S9 := hide (S8.out.call hb9); obtain ⟨⟨v0, v1, v2, v3, v4, e0, e1, e2, e3, e4⟩, f0, f1, f2, f3, f4⟩ := S9.out.wr.ready HD.out)))
    have D5 := hide (put5 true b (remv p b X) 0 (cv l X) e0 e1 e2 e3 e4)
    have S5 := hide (S9.out.put5 hLn.out (.bool true) (.int .i64 b) (.int .i64 (remv p b X)) (.int .i64 0) (.int .i64 (cv l X)))
    clear e0 e1 e2 e3 e4 f0 f1 f2 f3 f4 hb8 hb9 S7 S8 S9
    rename_i hHeld
    clear hHeld
    generalize ((((w9.setCell { block := db, off := d } (Value.bool true)).setCell { block := db, off := d + 1 } (Value.int IntKind.i64 ↑b)).setCell { block := db, off := d + 2 } (Value.int IntKind.i64 (remv p b X))).setCell { block := db, off := d + 3 } (Value.int IntKind.i64 0)).setCell { block := db, off := d + 4 } (Value.int IntKind.i64 (cv l X)) = W5 at *
    obtain ⟨-, r0, r1, -, ow⟩ := S5.out
    have fr := ow.2
    clear ow
    go_wp2_with fail
    exact bodyPost_ret (v := .agg #[.int .i64 (qv l X), .int .u64 (rv l X)]) (by simp [results, Try.results34, go_sem, r0, r1]) rfl ⟨rfl, (S5.out.wr.own (by simp) _).own (by simp) _, (D5.out.own (by simp; omega) _).own (by simp; omega) _⟩
end Go.Proofs.Qxb6612665a.W
