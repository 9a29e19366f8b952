import Derived.Test.Qxb6612665aTake
namespace Go.Proofs.Qxb6612665a.W
open Go.RowKit
set_option linter.unusedVariables false

/-- what Decide holds: the result's cells, the limiter's, the boxed span's, one more pair's at s -/
@[reducible] def LD (g l p b sb A s R : Nat) (x y : Value) : List (Nat × Nat × Value) :=
  [(sb + 1, 0, x), (sb + 1, 1, y), (s, 0, .int .i64 (qv l R)), (s, 1, .int .u64 (rv l R)), (g, 0, .int .u64 l), (g, 2, .int .i64 b), (g, 3, .int .i64 (qv l (b * p))), (g, 4, .int .u64 (rv l (b * p))), (sb, 0, .int .i64 (qv l A)), (sb, 1, .int .u64 (rv l A))]
theorem LD.ne {g l p b sb A s R db : Nat} {x y : Value} (h : g ≠ db) (h1 : sb ≠ db) (h2 : sb + 1 ≠ db) (h3 : s ≠ db) : ∀ z ∈ LD g l p b sb A s R x y, z.1 ≠ db := by
  intro z hz
  simp only [LD, List.mem_cons, List.not_mem_nil, or_false] at hz
  rcases hz with rfl | rfl | rfl | rfl | rfl | rfl | rfl | rfl | rfl | rfl
  · exact h2
  · exact h2
  · exact h3
  · exact h3
  · exact h
  · exact h
  · exact h
  · exact h
  · exact h1
  · exact h1
/-- the step's cells are made -/
theorem LD.step {g l p b A db d R : Nat} {w w1 : World} (hg : GC g l p b w) (ld : db < w.heap.size) (h : HW db d (w.heap.size + 1) w (LS g b w.heap.size l A) w1) (hn : g ≠ db) :
    HW db d (w.heap.size + 1) w (LD g l p b w.heap.size A w1.heap.size R (.int .i64 0) (.int .u64 0)) (w1.alloc (.cells #[.int .i64 (qv l R), .int .u64 (rv l R)] 38)) := by
  have h' := h.alloc (.cells #[.int .i64 (qv l R), .int .u64 (rv l R)] 38)
  have g' := h'.wr.gc hg hn
  have wr := h'.wr
  have ow := h'.mine
  obtain ⟨_, s0, s1, r0, r1, _⟩ := h'
  exact And.intro r0 (And.intro r1 (And.intro (new_cell0 w1 _ 38 0) (And.intro (new_cell0 w1 _ 38 1) (And.intro g'.c0 (And.intro g'.c2 (And.intro g'.c3 (And.intro g'.c4 (And.intro s0 (And.intro s1 (And.intro wr ow))))))))))
/-- the pair at s gives way to another -/
theorem LD.turn {g l p b A db d rb s s' R R' : Nat} {x y : Value} {w W : World} (h : HW db d rb w (LD g l p b w.heap.size A s R x y) W) (h0 : W.cell? ⟨s', 0, none⟩ = some (.int .i64 (qv l R'))) (h1 : W.cell? ⟨s', 1, none⟩ = some (.int .u64 (rv l R'))) :
    HW db d rb w (LD g l p b w.heap.size A s' R' x y) W := And.intro h.1 (And.intro h.2.1 (And.intro h0 (And.intro h1 h.2.2.2.2)))
/-- the result is stored -/
theorem LD.stored {g l p b A db d s R X : Nat} {x y : Value} {w W : World} (h : HW db d (w.heap.size + 1) w (LD g l p b w.heap.size A s R x y) W) (hg : g < w.heap.size) (hs : s ≠ w.heap.size + 1) :
    HW db d (w.heap.size + 1) w (LD g l p b w.heap.size A s R (.int .i64 (qv l X)) (.int .u64 (rv l X))) ((W.setCell ⟨w.heap.size + 1, 0, none⟩ (.int .i64 (qv l X))).setCell ⟨w.heap.size + 1, 1, none⟩ (.int .u64 (rv l X))) := by
  have wr := h.wr
  have ow := h.mine
  obtain ⟨r0, r1, a0, a1, g0, g2, g3, g4, s0, s1, _⟩ := h
  have ps := pair_set W _ _ _ (.int .i64 (qv l X)) (.int .u64 (rv l X)) r0 r1
  have o := fun (q : Nat) (hq : q ≠ w.heap.size + 1) (i : Nat) => show ((W.setCell ⟨w.heap.size + 1, 0, none⟩ (.int .i64 (qv l X))).setCell ⟨w.heap.size + 1, 1, none⟩ (.int .u64 (rv l X))).cell? ⟨q, i, none⟩ = W.cell? ⟨q, i, none⟩ by
    rw [World.cell?_setCell_other _ _ _ _ (by intro e; injection e; omega), World.cell?_setCell_other _ _ _ _ (by intro e; injection e; omega)]
  exact And.intro ps.1 (And.intro ps.2 (And.intro ((o s hs 0).trans a0) (And.intro ((o s hs 1).trans a1) (And.intro ((o g (by omega) 0).trans g0) (And.intro ((o g (by omega) 2).trans g2) (And.intro ((o g (by omega) 3).trans g3) (And.intro ((o g (by omega) 4).trans g4) (And.intro ((o _ (by omega) 0).trans s0) (And.intro ((o _ (by omega) 1).trans s1) (And.intro ((wr.own (by simp) _).own (by simp) _) ((ow.set _ _).set _ _)))))))))))
theorem wayB {w1 w2 : World} {o : Obj} {x0 x1 : Value} (hb : Below ((w1.alloc o).alloc (.cells #[x0, x1] 38)).drew.heap.size ((w1.alloc o).alloc (.cells #[x0, x1] 38)).drew w2) :
    w2.cell? ⟨w1.heap.size + 1, 0, none⟩ = some x0 ∧ w2.cell? ⟨w1.heap.size + 1, 1, none⟩ = some x1 := by
  have es : (w1.alloc o).heap.size = w1.heap.size + 1 := by simp
  have nc := new_cell (w1.alloc o) #[x0, x1] 38
  rw [es] at nc
  have k1 := fun (b o' : Nat) (hlt : b < ((w1.alloc o).alloc (.cells #[x0, x1] 38)).drew.heap.size) => hb.cell (p := ⟨b, o', none⟩) hlt
  exact ⟨by rw [k1 _ 0 (by simp), nc 0]; rfl, by rw [k1 _ 1 (by simp), nc 1]; rfl⟩
/-- how long till the key has room -/
def retryv (l p b c A : Nat) : Int := if room p b c < A then cv l (A - room p b c) else 0

set_option maxRecDepth 100000 in
set_option maxHeartbeats 1000000 in
theorem decide_late (g l p b c A db d : Nat) (f : Fit l p b c) (hA : cv l A ≤ 9223372036854775807) (hr : room p b c < A) (w : World) (hg : GC g l p b w) (hd : Ready db d w) (hne : g ≠ db) :
    Calls Try.prog 15 #[.pointer (some ⟨g, 0, none⟩), .pointer (some ⟨db, d, none⟩), .agg #[.int .i64 (qv l A), .int .u64 (rv l A)], .int .i64 c, .bool false] w fun e w' =>
      e = .returned (.agg #[.int .i64 (qv l A), .int .u64 (rv l A)]) ∧ Wr db d 5 w w' ∧ DC db d false b (remv p b A) (cv l (A - room p b c)) (cv l A) w' := by
  have hcv : cv l (A - room p b c) ≤ 9223372036854775807 := Int.le_trans (cv_mono l _ _ (by omega)) hA
  have qA : qv l A ≤ 9223372036854775807 := by have := (cv_bounds l A f.l0).1; omega
  have HR2 := hide (ltB_yes hr)
  have hle := hide (Nat.le_of_lt hr)
  have cb : c < 9223372036854775808 := by have := f.cb; have := f.b2; omega
  have qb := qv_le f.tol f.l0
  have F := hide f
  have HD := hide hd
  have HG := hide hg
  have ld := hd.lt
  have lg := hg.lt
  have S0 := hide (LS.start (A := A) (d := d) hg ld)
  have N1 : Hid (g ≠ w.heap.size + 1) := Nat.ne_of_lt (Nat.lt_succ_of_lt lg)
  have h0 := (hg.later (below2 w (.cells #[.int .i64 (qv l A), .int .u64 (rv l A)] 38) (.cells #[.int .i64 0, .int .u64 0] 38))).c0
  have h1 := (hg.later (below2 w (.cells #[.int .i64 (qv l A), .int .u64 (rv l A)] 38) (.cells #[.int .i64 0, .int .u64 0] 38))).c1
  have G0 := hide h0
  have G1 := hide h1
  have hda : Hid (d ≤ d + 3) := Nat.le_add_right _ _
  have hdb : Hid (d + 3 < d + 5) := by unfold Hid; omega
  clear f hd hg hr h0 h1
  go_enter Try.func15, Try.ntmps15
  go_upto_region 2 with (go_at_call 19; refine (interval_any g l p c F.out.l0 F.out.l2 F.out.p2 cb F.out.cost _ G0.out G1.out).mono ?_; rintro e w1 ⟨rfl, hb1⟩)
  have z1 : Hid (w.heap.size + 1 < w1.heap.size) := by have := hb1.size; simp at this; unfold Hid; omega
  have K0 := hide (LD.step (R := c * p) HG.out ld (S0.out.call hb1) hne)
  clear S0 hb1 G0 G1
  have hLs := hide (LD.ne (l := l) (p := p) (b := b) (A := A) (R := c * p) (g := g) (sb := w.heap.size) (s := w1.heap.size) (db := w1.heap.size + 1) (x := .int .i64 0) (y := .int .u64 0) (by have := z1.out; omega) (by have := z1.out; omega) (by have := z1.out; omega) (by omega))
  have hqs : Hid (w.heap.size ≤ w1.heap.size + 1) := by have := z1.out; unfold Hid; omega
  go_cut [12] (fun rp wx => ∃ rm, rp = .pointer (some ⟨rm, 0, none⟩) ∧ Hid (HW db d (w.heap.size + 1) w (LD g l p b w.heap.size A rm (room p b c) (.int .i64 0) (.int .u64 0)) wx ∧ w.heap.size + 1 < rm))
  case first =>
    go_region_held3 (fun w' => w'.cell? ⟨w.heap.size + 1, 0, none⟩ = some (.int .i64 0) ∧ w'.cell? ⟨w.heap.size + 1, 1, none⟩ = some (.int .u64 0) ∧ w'.cell? ⟨w1.heap.size, 0, none⟩ = some (.int .i64 (qv l (c * p))) ∧ w'.cell? ⟨w1.heap.size, 1, none⟩ = some (.int .u64 (rv l (c * p))) ∧ w'.cell? ⟨g, 0, none⟩ = some (.int .u64 l) ∧ w'.cell? ⟨g, 2, none⟩ = some (.int .i64 b) ∧ w'.cell? ⟨g, 3, none⟩ = some (.int .i64 (qv l (b * p))) ∧ w'.cell? ⟨g, 4, none⟩ = some (.int .u64 (rv l (b * p))) ∧ w'.cell? ⟨w.heap.size, 0, none⟩ = some (.int .i64 (qv l A)) ∧ w'.cell? ⟨w.heap.size, 1, none⟩ = some (.int .u64 (rv l A)) ∧ Wr db d 5 w w' ∧ Own (w.heap.size + 1) w')
      (first | with_reducible exact K0.out.drew | with_reducible exact K0.out.drew.alloc _ | with_reducible exact (K0.out.alloc _).drew | with_reducible exact K2.out | with_reducible exact K2.out.alloc _ | with_reducible exact K2.out.own2 _ hLs.out hqs.out _ _)
      ((go_at_call 25; refine (sub_any l (b * p) (c * p) F.out.l0 F.out.l2 F.out.cp qb _).mono ?_; rintro e w2 ⟨rfl, hb2⟩; have K2 := hide (show HW db d (w.heap.size + 1) w (LD g l p b w.heap.size A w1.heap.size (c * p) (.int .i64 0) (.int .u64 0)) w2 from by first | with_reducible exact K0.out.drew.call hb2 | with_reducible exact (K0.out.drew.alloc _).call hb2 | with_reducible exact (K0.out.alloc _).drew.call hb2); obtain ⟨hc2, hf2⟩ := bcell hb2))
    all_goals go_wp2_with fail
    all_goals go_meet
    · exact ⟨_, rfl, LD.turn (K2.out.alloc _) (new_cell0 w2 _ 38 0) (new_cell0 w2 _ 38 1), by have hs := hb2.size; simp at hs; have := z1.out; omega⟩
    · have ps := pair_set w2 _ _ _ (.int .i64 (qv l (b * p - c * p))) (.int .u64 (rv l (b * p - c * p))) (wayB hb2).1 (wayB hb2).2
      exact ⟨_, rfl, LD.turn (K2.out.own2 _ hLs.out hqs.out _ _) ps.1 ps.2, by have := z1.out; omega⟩
  case rest =>
    obtain ⟨rm, rfl, HR⟩ := hcut
    clear K0 hLs hqs z1
    have M0 := hide HR.out.1
    have zr := HR.out.2
    have hLd := hide (LD.ne (l := l) (p := p) (b := b) (A := A) (R := room p b c) (g := g) (sb := w.heap.size) (s := rm) (db := db) (x := .int .i64 0) (y := .int .u64 0) hne (by omega) (by omega) (by omega))
    have hLe := hide (LD.ne (l := l) (p := p) (b := b) (A := A) (R := room p b c) (g := g) (sb := w.heap.size) (s := rm) (db := db) (x := .int .i64 (qv l A)) (y := .int .u64 (rv l A)) hne (by omega) (by omega) (by omega))
    clear HR
    go_upto_region 3 with fail
    go_region_held3 (fun w' => w'.cell? ⟨w.heap.size + 1, 0, none⟩ = some (.int .i64 0) ∧ w'.cell? ⟨w.heap.size + 1, 1, none⟩ = some (.int .u64 0) ∧ w'.cell? ⟨rm, 0, none⟩ = some (.int .i64 (qv l (room p b c))) ∧ w'.cell? ⟨rm, 1, none⟩ = some (.int .u64 (rv l (room p b c))) ∧ w'.cell? ⟨g, 0, none⟩ = some (.int .u64 l) ∧ w'.cell? ⟨g, 2, none⟩ = some (.int .i64 b) ∧ w'.cell? ⟨g, 3, none⟩ = some (.int .i64 (qv l (b * p))) ∧ w'.cell? ⟨g, 4, none⟩ = some (.int .u64 (rv l (b * p))) ∧ w'.cell? ⟨w.heap.size, 0, none⟩ = some (.int .i64 (qv l A)) ∧ w'.cell? ⟨w.heap.size, 1, none⟩ = some (.int .u64 (rv l A)) ∧ Wr db d 5 w w' ∧ Own (w.heap.size + 1) w')
      (first | with_reducible exact M0.out.drew | with_reducible exact M1.out | with_reducible exact M1.out.put5 hLd.out _ _ _ _ _)
      ((go_at_call 26; refine (less_any l (room p b c) A F.out.l0 _).mono ?_; rintro e w3 ⟨rfl, hb3⟩; rw [HR2.out]; have M1 := hide (M0.out.drew.call hb3); obtain ⟨⟨v0, v1, v2, v3, v4, e0, e1, e2, e3, e4⟩, f0, f1, f2, f3, f4⟩ := M1.out.wr.ready HD.out))
    have D5 := hide (put5 false b 0 0 0 e0 e1 e2 e3 e4)
    have M5 := hide (M1.out.put5 hLd.out (.bool false) (.int .i64 b) (.int .i64 0) (.int .i64 0) (.int .i64 0))
    clear e0 e1 e2 e3 e4 f0 f1 f2 f3 f4 hb3 M0 M1
    rename_i hHeld
    clear hHeld
    generalize ((((w3.setCell { block := db, off := d } (Value.bool false)).setCell { block := db, off := d + 1 } (Value.int IntKind.i64 ↑b)).setCell { block := db, off := d + 2 } (Value.int IntKind.i64 0)).setCell { block := db, off := d + 3 } (Value.int IntKind.i64 0)).setCell { block := db, off := d + 4 } (Value.int IntKind.i64 0) = W5 at *
    obtain ⟨r0, r1, -, -, -, -, -, -, s0, s1, -, ow⟩ := M5.out
    have fr := ow.2
    have d0 := D5.out.c0
    clear ow
    go_upto_region 5 with fail
    have M6 := hide (LD.stored (X := A) M5.out lg (by omega))
    have D6 := hide ((D5.out.own (q := ⟨w.heap.size + 1, 0, none⟩) (by show w.heap.size + 1 ≠ db; omega) (.int .i64 (qv l A))).own (q := ⟨w.heap.size + 1, 1, none⟩) (by show w.heap.size + 1 ≠ db; omega) (.int .u64 (rv l A)))
    clear M5 D5 r0 r1 s0 s1 fr d0
    generalize (W5.setCell ⟨w.heap.size + 1, 0, none⟩ (.int .i64 (qv l A))).setCell ⟨w.heap.size + 1, 1, none⟩ (.int .u64 (rv l A)) = W6 at *
    have d0 := D6.out.c0
    go_upto_region 6 with fail
    clear d0
    go_region_held3 (fun w' => w'.cell? ⟨w.heap.size + 1, 0, none⟩ = some (.int .i64 (qv l A)) ∧ w'.cell? ⟨w.heap.size + 1, 1, none⟩ = some (.int .u64 (rv l A)) ∧ w'.cell? ⟨rm, 0, none⟩ = some (.int .i64 (qv l (room p b c))) ∧ w'.cell? ⟨rm, 1, none⟩ = some (.int .u64 (rv l (room p b c))) ∧ w'.cell? ⟨g, 0, none⟩ = some (.int .u64 l) ∧ w'.cell? ⟨g, 2, none⟩ = some (.int .i64 b) ∧ w'.cell? ⟨g, 3, none⟩ = some (.int .i64 (qv l (b * p))) ∧ w'.cell? ⟨g, 4, none⟩ = some (.int .u64 (rv l (b * p))) ∧ w'.cell? ⟨w.heap.size, 0, none⟩ = some (.int .i64 (qv l A)) ∧ w'.cell? ⟨w.heap.size, 1, none⟩ = some (.int .u64 (rv l A)) ∧ Wr db d 5 w w' ∧ Own (w.heap.size + 1) w')
      (first | with_reducible exact M6.out.drew | with_reducible exact Ma.out | with_reducible exact Mb.out | with_reducible exact Mb.out.put hLe.out hda.out hdb.out _)
      (first
        | ((go_at_call 25; refine (sub_any l A (room p b c) F.out.l0 F.out.l2 hle.out qA _).mono ?_; rintro e wa ⟨rfl, hba⟩; have Ma := hide (M6.out.drew.call hba); have Da := hide (D6.out.drew.call hba)))
        | ((go_at_call 27; refine (ceil_any l (A - room p b c) F.out.l0 hcv _).mono ?_; rintro e wb ⟨rfl, hbb⟩; have Mb := hide (Ma.out.call hbb); have Db := hide (Da.out.call hbb); have d3 := Db.out.c3; obtain ⟨-, -, -, -, f3, -⟩ := Mb.out.wr.ready HD.out)))
    have M7 := hide (Mb.out.put (o := d + 3) hLe.out (by omega) (by omega) (.int .i64 (cv l (A - room p b c))))
    have D7 := hide (Db.out.put3 (cv l (A - room p b c)))
    clear M6 D6 Ma Da Mb Db hba hbb d3 f3
    rename_i hHeld
    clear hHeld
    generalize wb.setCell ⟨db, d + 3, none⟩ (.int .i64 (cv l (A - room p b c))) = W7 at *
    obtain ⟨r0, r1, -⟩ := M7.out
    go_upto_region 10 with (go_at_call 27; refine (ceil_any l A F.out.l0 hA _).mono ?_; rintro e w8 ⟨rfl, hb8⟩; have M8 := hide (M7.out.call hb8); have D8 := hide (D7.out.call hb8); have d4 := D8.out.c4; obtain ⟨-, -, -, -, -, f4⟩ := M8.out.wr.ready HD.out)
    have M9 := hide (M8.out.put (o := d + 4) hLe.out (by omega) (by omega) (.int .i64 (cv l A)))
    have D9 := hide (D8.out.put4 (cv l A))
    clear M7 D7 M8 D8 r0 r1 d4 f4 hb8
    generalize w8.setCell ⟨db, d + 4, none⟩ (.int .i64 (cv l A)) = W9 at *
    obtain ⟨r0, r1, -⟩ := M9.out
    go_wp2_with (go_at_call 29; refine (rem_any g l p b A F.out.l0 F.out.l2 F.out.p0 F.out.p2 F.out.b2 qA _ ?_).mono ?_; (exact M9.out.wr.gc HG.out hne); rintro e w10 ⟨rfl, hb10⟩; have M10 := hide (M9.out.call hb10); have D10 := hide (D9.out.call hb10); clear r0 r1; obtain ⟨r0, r1, -⟩ := M10.out; have fr := M10.out.mine.2; have d2 := D10.out.c2; obtain ⟨-, -, -, f2, -, -⟩ := M10.out.wr.ready HD.out)
    exact bodyPost_ret (v := .agg #[.int .i64 (qv l A), .int .u64 (rv l A)]) (by simp [results, Try.results15, go_sem, r0, r1]) rfl ⟨rfl, ((M10.out.wr.put (by omega) (by omega) _).own (by simp) _).own (by simp) _, ((D10.out.put2 (remv p b A)).own (by simp; omega) _).own (by simp; omega) _⟩

set_option maxRecDepth 100000 in
set_option maxHeartbeats 1000000 in
theorem decide_now (g l p b c A db d : Nat) (f : Fit l p b c) (hA : cv l A ≤ 9223372036854775807) (hr : ¬ room p b c < A) (w : World) (hg : GC g l p b w) (hd : Ready db d w) (hne : g ≠ db) :
    Calls Try.prog 15 #[.pointer (some ⟨g, 0, none⟩), .pointer (some ⟨db, d, none⟩), .agg #[.int .i64 (qv l A), .int .u64 (rv l A)], .int .i64 c, .bool false] w fun e w' =>
      e = .returned (.agg #[.int .i64 (qv l A), .int .u64 (rv l A)]) ∧ Wr db d 5 w w' ∧ DC db d true b (remv p b A) 0 (cv l A) w' := by
  have qA : qv l A ≤ 9223372036854775807 := by have := (cv_bounds l A f.l0).1; omega
  have HR2 := hide (ltB_no hr)
  have cb : c < 9223372036854775808 := by have := f.cb; have := f.b2; omega
  have qb := qv_le f.tol f.l0
  have F := hide f
  have HD := hide hd
  have HG := hide hg
  have ld := hd.lt
  have lg := hg.lt
  have S0 := hide (LS.start (A := A) (d := d) hg ld)
  have N1 : Hid (g ≠ w.heap.size + 1) := Nat.ne_of_lt (Nat.lt_succ_of_lt lg)
  have h0 := (hg.later (below2 w (.cells #[.int .i64 (qv l A), .int .u64 (rv l A)] 38) (.cells #[.int .i64 0, .int .u64 0] 38))).c0
  have h1 := (hg.later (below2 w (.cells #[.int .i64 (qv l A), .int .u64 (rv l A)] 38) (.cells #[.int .i64 0, .int .u64 0] 38))).c1
  have G0 := hide h0
  have G1 := hide h1
  clear f hd hg hr h0 h1
  go_enter Try.func15, Try.ntmps15
  go_upto_region 2 with (go_at_call 19; refine (interval_any g l p c F.out.l0 F.out.l2 F.out.p2 cb F.out.cost _ G0.out G1.out).mono ?_; rintro e w1 ⟨rfl, hb1⟩)
  have z1 : Hid (w.heap.size + 1 < w1.heap.size) := by have := hb1.size; simp at this; unfold Hid; omega
  have K0 := hide (LD.step (R := c * p) HG.out ld (S0.out.call hb1) hne)
  clear S0 hb1 G0 G1
  have hLs := hide (LD.ne (l := l) (p := p) (b := b) (A := A) (R := c * p) (g := g) (sb := w.heap.size) (s := w1.heap.size) (db := w1.heap.size + 1) (x := .int .i64 0) (y := .int .u64 0) (by have := z1.out; omega) (by have := z1.out; omega) (by have := z1.out; omega) (by omega))
  have hqs : Hid (w.heap.size ≤ w1.heap.size + 1) := by have := z1.out; unfold Hid; omega
  go_cut [12] (fun rp wx => ∃ rm, rp = .pointer (some ⟨rm, 0, none⟩) ∧ Hid (HW db d (w.heap.size + 1) w (LD g l p b w.heap.size A rm (room p b c) (.int .i64 0) (.int .u64 0)) wx ∧ w.heap.size + 1 < rm))
  case first =>
    go_region_held3 (fun w' => w'.cell? ⟨w.heap.size + 1, 0, none⟩ = some (.int .i64 0) ∧ w'.cell? ⟨w.heap.size + 1, 1, none⟩ = some (.int .u64 0) ∧ w'.cell? ⟨w1.heap.size, 0, none⟩ = some (.int .i64 (qv l (c * p))) ∧ w'.cell? ⟨w1.heap.size, 1, none⟩ = some (.int .u64 (rv l (c * p))) ∧ w'.cell? ⟨g, 0, none⟩ = some (.int .u64 l) ∧ w'.cell? ⟨g, 2, none⟩ = some (.int .i64 b) ∧ w'.cell? ⟨g, 3, none⟩ = some (.int .i64 (qv l (b * p))) ∧ w'.cell? ⟨g, 4, none⟩ = some (.int .u64 (rv l (b * p))) ∧ w'.cell? ⟨w.heap.size, 0, none⟩ = some (.int .i64 (qv l A)) ∧ w'.cell? ⟨w.heap.size, 1, none⟩ = some (.int .u64 (rv l A)) ∧ Wr db d 5 w w' ∧ Own (w.heap.size + 1) w')
      (first | with_reducible exact K0.out.drew | with_reducible exact K0.out.drew.alloc _ | with_reducible exact (K0.out.alloc _).drew | with_reducible exact K2.out | with_reducible exact K2.out.alloc _ | with_reducible exact K2.out.own2 _ hLs.out hqs.out _ _)
      ((go_at_call 25; refine (sub_any l (b * p) (c * p) F.out.l0 F.out.l2 F.out.cp qb _).mono ?_; rintro e w2 ⟨rfl, hb2⟩; have K2 := hide (show HW db d (w.heap.size + 1) w (LD g l p b w.heap.size A w1.heap.size (c * p) (.int .i64 0) (.int .u64 0)) w2 from by first | with_reducible exact K0.out.drew.call hb2 | with_reducible exact (K0.out.drew.alloc _).call hb2 | with_reducible exact (K0.out.alloc _).drew.call hb2); obtain ⟨hc2, hf2⟩ := bcell hb2))
    all_goals go_wp2_with fail
    all_goals go_meet
    · exact ⟨_, rfl, LD.turn (K2.out.alloc _) (new_cell0 w2 _ 38 0) (new_cell0 w2 _ 38 1), by have hs := hb2.size; simp at hs; have := z1.out; omega⟩
    · have ps := pair_set w2 _ _ _ (.int .i64 (qv l (b * p - c * p))) (.int .u64 (rv l (b * p - c * p))) (wayB hb2).1 (wayB hb2).2
      exact ⟨_, rfl, LD.turn (K2.out.own2 _ hLs.out hqs.out _ _) ps.1 ps.2, by have := z1.out; omega⟩
  case rest =>
    obtain ⟨rm, rfl, HR⟩ := hcut
    clear K0 hLs hqs z1
    have M0 := hide HR.out.1
    have zr := HR.out.2
    have hLd := hide (LD.ne (l := l) (p := p) (b := b) (A := A) (R := room p b c) (g := g) (sb := w.heap.size) (s := rm) (db := db) (x := .int .i64 0) (y := .int .u64 0) hne (by omega) (by omega) (by omega))
    have hLe := hide (LD.ne (l := l) (p := p) (b := b) (A := A) (R := room p b c) (g := g) (sb := w.heap.size) (s := rm) (db := db) (x := .int .i64 (qv l A)) (y := .int .u64 (rv l A)) hne (by omega) (by omega) (by omega))
    clear HR
    go_upto_region 3 with fail
    go_region_held3 (fun w' => w'.cell? ⟨w.heap.size + 1, 0, none⟩ = some (.int .i64 0) ∧ w'.cell? ⟨w.heap.size + 1, 1, none⟩ = some (.int .u64 0) ∧ w'.cell? ⟨rm, 0, none⟩ = some (.int .i64 (qv l (room p b c))) ∧ w'.cell? ⟨rm, 1, none⟩ = some (.int .u64 (rv l (room p b c))) ∧ w'.cell? ⟨g, 0, none⟩ = some (.int .u64 l) ∧ w'.cell? ⟨g, 2, none⟩ = some (.int .i64 b) ∧ w'.cell? ⟨g, 3, none⟩ = some (.int .i64 (qv l (b * p))) ∧ w'.cell? ⟨g, 4, none⟩ = some (.int .u64 (rv l (b * p))) ∧ w'.cell? ⟨w.heap.size, 0, none⟩ = some (.int .i64 (qv l A)) ∧ w'.cell? ⟨w.heap.size, 1, none⟩ = some (.int .u64 (rv l A)) ∧ Wr db d 5 w w' ∧ Own (w.heap.size + 1) w')
      (first | with_reducible exact M0.out.drew | with_reducible exact M1.out | with_reducible exact M1.out.put5 hLd.out _ _ _ _ _)
      ((go_at_call 26; refine (less_any l (room p b c) A F.out.l0 _).mono ?_; rintro e w3 ⟨rfl, hb3⟩; rw [HR2.out]; have M1 := hide (M0.out.drew.call hb3); obtain ⟨⟨v0, v1, v2, v3, v4, e0, e1, e2, e3, e4⟩, f0, f1, f2, f3, f4⟩ := M1.out.wr.ready HD.out))
    have D5 := hide (put5 true b 0 0 0 e0 e1 e2 e3 e4)
    have M5 := hide (M1.out.put5 hLd.out (.bool true) (.int .i64 b) (.int .i64 0) (.int .i64 0) (.int .i64 0))
    clear e0 e1 e2 e3 e4 f0 f1 f2 f3 f4 hb3 M0 M1
    rename_i hHeld
    clear hHeld
    generalize ((((w3.setCell { block := db, off := d } (Value.bool true)).setCell { block := db, off := d + 1 } (Value.int IntKind.i64 ↑b)).setCell { block := db, off := d + 2 } (Value.int IntKind.i64 0)).setCell { block := db, off := d + 3 } (Value.int IntKind.i64 0)).setCell { block := db, off := d + 4 } (Value.int IntKind.i64 0) = W5 at *
    obtain ⟨r0, r1, -, -, -, -, -, -, s0, s1, -, ow⟩ := M5.out
    have fr := ow.2
    have d0 := D5.out.c0
    clear ow
    go_upto_region 5 with fail
    have M6 := hide (LD.stored (X := A) M5.out lg (by omega))
    have D6 := hide ((D5.out.own (q := ⟨w.heap.size + 1, 0, none⟩) (by show w.heap.size + 1 ≠ db; omega) (.int .i64 (qv l A))).own (q := ⟨w.heap.size + 1, 1, none⟩) (by show w.heap.size + 1 ≠ db; omega) (.int .u64 (rv l A)))
    clear M5 D5 r0 r1 s0 s1 fr d0
    generalize (W5.setCell ⟨w.heap.size + 1, 0, none⟩ (.int .i64 (qv l A))).setCell ⟨w.heap.size + 1, 1, none⟩ (.int .u64 (rv l A)) = W6 at *
    have d0 := D6.out.c0
    have M7 := M6
    have D7 := D6
    clear M6 D6
    obtain ⟨r0, r1, -⟩ := M7.out
    go_upto_region 10 with (go_at_call 27; refine (ceil_any l A F.out.l0 hA _).mono ?_; rintro e w8 ⟨rfl, hb8⟩; have M8 := hide (M7.out.call hb8); have D8 := hide (D7.out.call hb8); have d4 := D8.out.c4; obtain ⟨-, -, -, -, -, f4⟩ := M8.out.wr.ready HD.out)
    have M9 := hide (M8.out.put (o := d + 4) hLe.out (by omega) (by omega) (.int .i64 (cv l A)))
    have D9 := hide (D8.out.put4 (cv l A))
    clear M7 D7 M8 D8 r0 r1 d4 f4 hb8
    generalize w8.setCell ⟨db, d + 4, none⟩ (.int .i64 (cv l A)) = W9 at *
    obtain ⟨r0, r1, -⟩ := M9.out
    go_wp2_with (go_at_call 29; refine (rem_any g l p b A F.out.l0 F.out.l2 F.out.p0 F.out.p2 F.out.b2 qA _ ?_).mono ?_; (exact M9.out.wr.gc HG.out hne); rintro e w10 ⟨rfl, hb10⟩; have M10 := hide (M9.out.call hb10); have D10 := hide (D9.out.call hb10); clear r0 r1; obtain ⟨r0, r1, -⟩ := M10.out; have fr := M10.out.mine.2; have d2 := D10.out.c2; obtain ⟨-, -, -, f2, -, -⟩ := M10.out.wr.ready HD.out)
    exact bodyPost_ret (v := .agg #[.int .i64 (qv l A), .int .u64 (rv l A)]) (by simp [results, Try.results15, go_sem, r0, r1]) rfl ⟨rfl, ((M10.out.wr.put (by omega) (by omega) _).own (by simp) _).own (by simp) _, ((D10.out.put2 (remv p b A)).own (by simp; omega) _).own (by simp; omega) _⟩

theorem decide_any (g l p b c A db d : Nat) (f : Fit l p b c) (hA : cv l A ≤ 9223372036854775807) (w : World) (hg : GC g l p b w) (hd : Ready db d w) (hne : g ≠ db) :
    Calls Try.prog 15 #[.pointer (some ⟨g, 0, none⟩), .pointer (some ⟨db, d, none⟩), .agg #[.int .i64 (qv l A), .int .u64 (rv l A)], .int .i64 c, .bool false] w fun e w' =>
      e = .returned (.agg #[.int .i64 (qv l A), .int .u64 (rv l A)]) ∧ Wr db d 5 w w' ∧ DC db d (!ltB (room p b c) A) b (remv p b A) (retryv l p b c A) (cv l A) w' := by
  unfold retryv
  by_cases h : room p b c < A
  · rw [ltB_yes h, if_pos h]
    exact decide_late g l p b c A db d f hA h w hg hd hne
  · rw [ltB_no h, if_neg h]
    exact decide_now g l p b c A db d f hA h w hg hd hne
end Go.Proofs.Qxb6612665a.W
