import Derived.Test.Qxb6612665aTwo
namespace Go.Proofs.Qxb6612665a.W
open Go.RowKit
set_option linter.unusedVariables false

/-- ONE CHECK: limit, period, burst, the key's time ahead, is it a queue, how late; where its limiter lies -/
structure Chk where
  l : Nat
  p : Nat
  b : Nat
  A : Nat
  qu : Bool
  late : Int
  g : Nat
def Chk.aft (k : Chk) (c : Nat) : Int := afterv (waitv k.l k.p k.b c k.A k.qu) k.late
def Chk.ok (k : Chk) (c : Nat) : Bool := okv k.p k.b c k.A k.qu
def Chk.alw (k : Chk) (c : Nat) (longest : Int) : Bool := k.ok c && inB (k.aft c) longest (farv k.l k.p k.b)
/-- do the first n admit it? -/
def adm (C : Nat → Chk) (c : Nat) (longest : Int) : Nat → Bool
  | 0 => true
  | n + 1 => adm C c longest n && (C n).alw c longest
/-- .. the latest of their times -/
def del (C : Nat → Chk) (c : Nat) : Nat → Int
  | 0 => 0
  | n + 1 => max (del C c n) ((C n).aft c)
structure Chk.Good (k : Chk) (c : Nat) : Prop where
  fit : Fit k.l k.p k.b c
  hA : cv k.l k.A ≤ 9223372036854775807
  l0 : 0 ≤ k.late
  l1 : k.late < 18446744073709551616
structure Chk.In (k : Chk) (tb t : Nat) (w : World) : Prop where
  gc : GC k.g k.l k.p k.b w
  tc : TC tb t k.g k.qu (qv k.l k.A) (rv k.l k.A) k.late w
theorem Chk.In.later {k : Chk} {tb t : Nat} {w w' : World} (h : k.In tb t w) (hb : Below w.heap.size w w') : k.In tb t w' := ⟨h.gc.later hb, h.tc.later hb⟩
theorem afterv_bounds (wait late : Int) (h : 0 ≤ wait) (h0 : 0 ≤ late) : 0 ≤ afterv wait late ∧ afterv wait late ≤ 9223372036854775807 := by
  unfold afterv
  split <;> omega
theorem Chk.aft_bounds {k : Chk} {c : Nat} (h : k.Good c) : 0 ≤ k.aft c ∧ k.aft c ≤ 9223372036854775807 := afterv_bounds _ _ (waitv_nn _ _ _ _ _ _) h.l0
theorem del_bounds (C : Nat → Chk) (c : Nat) : ∀ n, (∀ i, i < n → (C i).Good c) → 0 ≤ del C c n ∧ del C c n ≤ 9223372036854775807
  | 0, _ => by simp [del]
  | n + 1, h => by
    have := del_bounds C c n (fun i hi => h i (by omega))
    have := Chk.aft_bounds (h n (by omega))
    simp only [del]
    omega
theorem within_chk (k : Chk) (c tb t : Nat) (longest : Int) (hk : k.Good c) (w : World) (h : k.In tb t w) :
    Calls Try.prog 33 #[.pointer (some ⟨tb, t, none⟩), .int .i64 c, .int .i64 longest] w fun e w' =>
      e = .returned (.tuple #[.int .i64 (k.aft c), .bool (k.ok c), .bool (k.alw c longest)]) ∧ Below w.heap.size w w' :=
  within_any tb t k.g k.l k.p k.b c k.A k.qu k.late longest hk.fit hk.hA hk.l0 hk.l1 w h.gc h.tc

/-- the key's next time, and the decision's fields: 'ad': was it admitted? 'dl': the delay -/
def Chk.nx (k : Chk) (c : Nat) (ad : Bool) (dl : Int) : Nat := if ad then (if cv k.l k.A < dl - k.late then (dl - k.late).toNat * k.l else k.A) + c * k.p else k.A
def Chk.dAl (k : Chk) (c : Nat) (longest : Int) (ad : Bool) : Bool := if ad then true else if k.ok c then k.alw c longest else !ltB (room k.p k.b c) k.A
def Chk.dRetry (k : Chk) (c : Nat) (longest : Int) (ad : Bool) : Int := if ad then 0 else if k.ok c then (if k.alw c longest then 0 else k.aft c) else retryv k.l k.p k.b c k.A
def Chk.Dec (k : Chk) (c : Nat) (longest : Int) (ad : Bool) (dl : Int) (db d : Nat) (w : World) : Prop :=
  DC db d (k.dAl c longest ad) k.b (remv k.p k.b (k.nx c ad dl)) (k.dRetry c longest ad) (cv k.l (k.nx c ad dl)) w
def Chk.Nxt (k : Chk) (c : Nat) (ad : Bool) (dl : Int) (nb d : Nat) (w : World) : Prop := NC nb d (qv k.l (k.nx c ad dl)) (rv k.l (k.nx c ad dl)) w
/-- the delay that Reserve tells -/
def dout (ad : Bool) (dl : Int) : Int := if ad then dl else 0
/-- k rounds behind -/
structure RS (C : Nat → Chk) (c : Nat) (longest : Int) (ad : Bool) (dl : Int) (db nb k : Nat) (w W : World) : Prop where
  ww : WW db nb w W
  ds : ∀ i, i < k → (C i).Dec c longest ad dl db (i * 5) W
  ns : ∀ i, i < k → (C i).Nxt c ad dl nb (i * 2) W
theorem RS.zero {C : Nat → Chk} {c : Nat} {longest : Int} {ad : Bool} {dl : Int} {db nb : Nat} {w W : World} (h : WW db nb w W) : RS C c longest ad dl db nb 0 w W := ⟨h, fun i hi => by omega, fun i hi => by omega⟩
theorem RS.call {C : Nat → Chk} {c : Nat} {longest : Int} {ad : Bool} {dl : Int} {db nb k : Nat} {w W W' : World} (h : RS C c longest ad dl db nb k w W) (hb : Below W.heap.size W W') : RS C c longest ad dl db nb k w W' := by
  have hs := h.ww.size
  have h1 := h.ww.ld
  have h2 := h.ww.ln
  exact ⟨h.ww.call hb, fun i hi => (h.ds i hi).call hb, fun i hi => (h.ns i hi).same fun o _ _ => hb.cell (p := ⟨nb, o, none⟩) (by show nb < _; omega)⟩
theorem RS.drew {C : Nat → Chk} {c : Nat} {longest : Int} {ad : Bool} {dl : Int} {db nb k : Nat} {w W : World} (h : RS C c longest ad dl db nb k w W) : RS C c longest ad dl db nb k w W.drew :=
  ⟨h.ww.drew, fun i hi => (h.ds i hi).drew, fun i hi => ⟨(h.ns i hi).c0, (h.ns i hi).c1⟩⟩
theorem RS.step {C : Nat → Chk} {c : Nat} {longest : Int} {ad : Bool} {dl : Int} {db nb k : Nat} {w W W1 : World} {v0 v1 : Value} (h : RS C c longest ad dl db nb k w W) (hw : Wr db (k * 5) 5 W W1) (hd : (C k).Dec c longest ad dl db (k * 5) W1)
    (e0 : W1.cell? ⟨nb, k * 2, none⟩ = some v0) (e1 : W1.cell? ⟨nb, k * 2 + 1, none⟩ = some v1) :
    RS C c longest ad dl db nb (k + 1) w ((W1.setCell ⟨nb, k * 2, none⟩ (.int .i64 (qv (C k).l ((C k).nx c ad dl)))).setCell ⟨nb, k * 2 + 1, none⟩ (.int .u64 (rv (C k).l ((C k).nx c ad dl)))) := by
  have hs := h.ww.size
  have h1 := h.ww.ld
  have h2 := h.ww.ln
  have h3 := h.ww.ne
  have o := fun (X : World) (i j : Nat) (b : Nat) (v : Value) (hh : b ≠ nb ∨ j ≠ i) => World.cell?_setCell_other X ⟨nb, i, none⟩ ⟨b, j, none⟩ v (by intro e; injection e; omega)
  refine ⟨((h.ww.wr hw).put _).put _, fun i hi => ?_, fun i hi => ?_⟩
  · have key : (C i).Dec c longest ad dl db (i * 5) W1 := by
      rcases Nat.lt_or_ge i k with hi' | hi'
      · exact (h.ds i hi').same fun o _ ho => hw.rest o (.inl (by omega))
      · have e : i = k := by omega
        subst e
        exact hd
    exact key.same fun j _ _ => by rw [o _ _ _ _ _ (.inl h3), o _ _ _ _ _ (.inl h3)]
  · rcases Nat.lt_or_ge i k with hi' | hi'
    · exact (h.ns i hi').same fun j _ hj => by rw [o _ _ _ _ _ (.inr (by omega)), o _ _ _ _ _ (.inr (by omega)), hw.cell (by omega) h3.symm]
    · have e : i = k := by omega
      subst e
      exact put2 _ _ e0 e1

theorem Chk.In.drew {k : Chk} {tb t : Nat} {w : World} (h : k.In tb t w) : k.In tb t w.drew := ⟨h.gc, ⟨h.tc.c0, h.tc.c1, h.tc.c2, h.tc.c3, h.tc.c4⟩⟩
theorem Chk.In.ww {k : Chk} {tb t db nb : Nat} {w W : World} (h : k.In tb t w) (hw : WW db nb w W) (h1 : tb ≠ db) (h2 : tb ≠ nb) (h3 : k.g ≠ db ∧ k.g ≠ nb) : k.In tb t W := by
  have lt := h.tc.lt
  have c := fun o => hw.cell lt h1 h2 o
  refine ⟨?_, ⟨(c _).trans h.tc.c0, (c _).trans h.tc.c1, (c _).trans h.tc.c2, (c _).trans h.tc.c3, (c _).trans h.tc.c4⟩⟩
  unfold GC
  rw [hw.block k.g h.gc.lt h3.1 h3.2]
  exact h.gc
theorem Chk.In.hv {k : Chk} {tb t db nb : Nat} {w W : World} (h : k.In tb t W) (hw : WW db nb w W) : HV db nb w (LQ tb t k.g (qv k.l k.A) (rv k.l k.A) k.late) W :=
  And.intro h.tc.c0 (And.intro h.tc.c2 (And.intro h.tc.c3 (And.intro h.tc.c4 hw)))
theorem dec_take {k : Chk} {c : Nat} {longest dl : Int} {db d : Nat} {w : World} (h : DC db d true k.b (remv k.p k.b (k.nx c true dl)) 0 (cv k.l (k.nx c true dl)) w) : k.Dec c longest true dl db d w := h
theorem dec_decide {k : Chk} {c : Nat} {longest dl : Int} {db d : Nat} {w : World} (ho : k.ok c = false) (h : DC db d (!ltB (room k.p k.b c) k.A) k.b (remv k.p k.b k.A) (retryv k.l k.p k.b c k.A) (cv k.l k.A) w) : k.Dec c longest false dl db d w := by
  unfold Chk.Dec Chk.dAl Chk.dRetry
  rw [ho]
  exact h
theorem dec_stands {k : Chk} {c : Nat} {longest dl : Int} {db d : Nat} {w : World} (ho : k.ok c = true) (h : DC db d (k.alw c longest) k.b (remv k.p k.b k.A) (if k.alw c longest then 0 else k.aft c) (cv k.l k.A) w) : k.Dec c longest false dl db d w := by
  unfold Chk.Dec Chk.dAl Chk.dRetry
  rw [ho]
  exact h

set_option maxRecDepth 100000 in
set_option maxHeartbeats 1000000 in
theorem reserve_any (C : Nat → Chk) (c n tb db nb : Nat) (longest : Int) (hn : n ≤ 8192) (hG : ∀ i, i < n → (C i).Good c) (w : World) (hI : ∀ i, i < n → (C i).In tb (i * 5) w)
    (hD : ∀ i, i < n → Ready db (i * 5) w) (hN : ∀ i, i < n → Ready2 nb (i * 2) w) (hdn : db ≠ nb) (htd : tb ≠ db) (htn : tb ≠ nb) (hg : ∀ i, i < n → (C i).g ≠ db ∧ (C i).g ≠ nb) (ld : db < w.heap.size) (ln : nb < w.heap.size)
    (hT : adm C c longest n = true → ∀ i, i < n → (C i).late ≤ 9223372036854775807 ∧ cv (C i).l ((C i).nx c true (del C c n)) ≤ 9223372036854775807) :
    Calls Try.prog 24 #[.slice (some ⟨db, 0, none⟩) n n, .slice (some ⟨nb, 0, none⟩) n n, .slice (some ⟨tb, 0, none⟩) n n, .int .i64 c, .int .i64 longest] w fun e w' =>
      e = .returned (.tuple #[.int .i64 (dout (adm C c longest n) (del C c n)), .bool (adm C c longest n)]) ∧ RS C c longest (adm C c longest n) (del C c n) db nb n w w' := by
  have HG := hide hG
  have HI := hide hI
  have HD := hide hD
  have HN := hide hN
  have HGN := hide hg
  have HT := hide hT
  have DB := hide (del_bounds C c n hG)
  clear hG hI hD hN hg hT
  go_enter Try.func24, Try.ntmps24
  go_wp2_with fail
  go_loopw [10, 11, 23] (fun dv av iv wr => ∃ k : Nat, k ≤ n ∧ iv = .int .i64 k ∧ dv = .int .i64 (del C c k) ∧ av = .bool (adm C c longest k) ∧ Hid (Below w.heap.size w wr)) (fun _ _ i _ => n - (intOf i).toNat)
  case atStart => exact ⟨0, Nat.zero_le _, rfl, rfl, rfl, hide (Below.refl _ _)⟩
  case round =>
    obtain ⟨k, hk, rfl, rfl, rfl, HB⟩ := hrel
    by_cases hlt : k < n
    · have i1 : (k : Int) < (n : Int) := by omega
      have EA : Hid (adm C c longest (k + 1) = (adm C c longest k && (C k).alw c longest)) := rfl
      have ED : Hid (del C c (k + 1) = max (del C c k) ((C k).aft c)) := rfl
      have HK := hide (HG.out k hlt)
      have HJ := hide ((HI.out k hlt).later HB.out)
      generalize adm C c longest k = a at *
      generalize hx : (C k).alw c longest = x at *
      generalize hy : (C k).aft c = y at *
      have HX := hide hx
      have HY := hide hy
      clear hx hy
      cases a <;> cases x
      all_goals go_wp2_with (go_at_call 33; refine (within_chk (C k) c tb (k * 5) longest HK.out _ HJ.out).mono ?_; rintro e w1 ⟨rfl, hb1⟩; rw [HX.out, HY.out]; have HB1 := hide (below_call HB.out hb1 HB.out.size); clear hb1)
      all_goals go_roundw
      all_goals first
        | (case rel => exact ⟨k + 1, by omega, by go_num, by rw [ED.out], by rw [EA.out]; rfl, HB1⟩)
        | (case measure => simp [intOf]; omega)
    · have i1 : ¬ (k : Int) < (n : Int) := by omega
      have e : k = n := by omega
      subst e
      go_wp2_with fail
      have W0 := hide ((WW.refl ld ln hdn).call HB.out)
      clear HB i1 hlt hk
      generalize hAd : adm C c longest k = ad at *
      have HAd := hide hAd
      have EX : Hid (∀ i, (C i).ok c = false → (C i).alw c longest = false) := fun i h => by unfold Chk.alw; rw [h]; rfl
      clear hAd
      obtain ⟨d0, d1⟩ := DB.out
      generalize hDl : del C c k = dl at *
      have HDl := hide hDl
      clear hDl
      go_loopw [46] (fun iv wr => ∃ j : Nat, j ≤ k ∧ iv = .int .i64 j ∧ Hid (RS C c longest ad dl db nb j w wr)) (fun i _ => k - (intOf i).toNat)
      case atStart => exact ⟨0, Nat.zero_le _, rfl, hide (RS.zero W0.out)⟩
      case round =>
        obtain ⟨j, hj, rfl, HR⟩ := hrel
        by_cases hlt : j < k
        · have i1 : (j : Int) < (k : Int) := by omega
          have HK := hide (HG.out j hlt)
          have hgn := hide (HGN.out j hlt)
          have HJ := hide ((HI.out j hlt).ww HR.out.ww htd htn hgn.out)
          have V0 := hide (HJ.out.hv HR.out.ww)
          have hLd := hide (LQ.ne (t := j * 5) (g := (C j).g) (ns := qv (C j).l (C j).A) (fr := rv (C j).l (C j).A) (late := (C j).late) htd)
          have hLn := hide (LQ.ne (t := j * 5) (g := (C j).g) (ns := qv (C j).l (C j).A) (fr := rv (C j).l (C j).A) (late := (C j).late) htn)
          have l0 := HK.out.l0
          generalize hx : (C j).alw c longest = x at *
          generalize hy : (C j).aft c = y at *
          generalize ho : (C j).ok c = o at *
          have HX := hide hx
          have HY := hide hy
          have HO := hide ho
          clear hx hy ho
          cases ad
          · cases o
            · go_upto_region 18 with (go_at_call 33; refine (within_chk (C j) c tb (j * 5) longest HK.out _ HJ.out).mono ?_; rintro e w1 ⟨rfl, hb1⟩; rw [HX.out, HY.out, HO.out]; have V1 := hide (V0.out.call hb1); have R1 := hide (HR.out.call hb1).drew; have J1 := hide (HJ.out.later hb1).drew; clear hb1)
              go_region_held3 (fun w' => w'.cell? ⟨tb, j * 5, none⟩ = some (.pointer (some ⟨(C j).g, 0, none⟩)) ∧ w'.cell? ⟨tb, j * 5 + 2, none⟩ = some (.int .i64 (qv (C j).l (C j).A)) ∧ w'.cell? ⟨tb, j * 5 + 3, none⟩ = some (.int .u64 (rv (C j).l (C j).A)) ∧ w'.cell? ⟨tb, j * 5 + 4, none⟩ = some (.int .u64 (C j).late) ∧ WW db nb w w')
                (first | with_reducible exact V1.out.drew | with_reducible exact V2.out | with_reducible exact V2.out.put2 hLn.out _ _)
                ((go_at_call 15; refine (decide_any (C j).g (C j).l (C j).p (C j).b c (C j).A db (j * 5) HK.out.fit HK.out.hA _ J1.out.gc (V1.out.ww.drew.ready (HD.out j hlt)) hgn.out.1).mono ?_; rintro e w2 ⟨rfl, hw2, hd2⟩; have V2 := hide (V1.out.drew.wr hLd.out hw2); obtain ⟨⟨v0, v1, e0, e1⟩, f0, f1⟩ := V2.out.ww.ready2 (HN.out j hlt)))
              have R2 := hide (RS.step R1.out hw2 (dec_decide HO.out hd2) e0 e1)
              go_wp2_with fail
              go_roundw
              case rel => exact ⟨j + 1, by omega, by go_num, R2⟩
              case measure => simp [intOf]; omega
            · go_upto_region 14 with (go_at_call 33; refine (within_chk (C j) c tb (j * 5) longest HK.out _ HJ.out).mono ?_; rintro e w1 ⟨rfl, hb1⟩; rw [HX.out, HY.out, HO.out]; have V1 := hide (V0.out.call hb1); have R1 := hide (HR.out.call hb1).drew; have J1 := hide (HJ.out.later hb1).drew; clear hb1)
              go_region_held3 (fun w' => w'.cell? ⟨tb, j * 5, none⟩ = some (.pointer (some ⟨(C j).g, 0, none⟩)) ∧ w'.cell? ⟨tb, j * 5 + 2, none⟩ = some (.int .i64 (qv (C j).l (C j).A)) ∧ w'.cell? ⟨tb, j * 5 + 3, none⟩ = some (.int .u64 (rv (C j).l (C j).A)) ∧ w'.cell? ⟨tb, j * 5 + 4, none⟩ = some (.int .u64 (C j).late) ∧ WW db nb w w')
                (first | with_reducible exact V1.out.drew | with_reducible exact V2.out | with_reducible exact V2.out.put2 hLn.out _ _)
                ((go_at_call 35; refine (stands_any (C j).g (C j).l (C j).p (C j).b c (C j).A db (j * 5) x y HK.out.fit HK.out.hA _ J1.out.gc (V1.out.ww.drew.ready (HD.out j hlt)) hgn.out.1).mono ?_; rintro e w2 ⟨rfl, hw2, hd2⟩; have V2 := hide (V1.out.drew.wr hLd.out hw2); obtain ⟨⟨v0, v1, e0, e1⟩, f0, f1⟩ := V2.out.ww.ready2 (HN.out j hlt)))
              have R2 := hide (RS.step R1.out hw2 (dec_stands HO.out (by rw [HX.out, HY.out]; exact hd2)) e0 e1)
              go_wp2_with fail
              go_roundw
              case rel => exact ⟨j + 1, by omega, by go_num, R2⟩
              case measure => simp [intOf]; omega
          · obtain ⟨t1, t2⟩ := HT.out rfl j hlt
            have T2 := hide t2
            have WQ : Hid (IntKind.i64.wrap (dl - IntKind.i64.wrap (C j).late) = dl - (C j).late) := by
              unfold Hid
              rw [IntKind.wrap_i64 (C j).late, IntKind.wrap_i64]
              omega
            clear t2
            go_upto_region 16 with (go_at_call 33; refine (within_chk (C j) c tb (j * 5) longest HK.out _ HJ.out).mono ?_; rintro e w1 ⟨rfl, hb1⟩; rw [HX.out, HY.out, HO.out]; have V1 := hide (V0.out.call hb1); have R1 := hide (HR.out.call hb1).drew; have J1 := hide (HJ.out.later hb1).drew; clear hb1)
            go_region_held3 (fun w' => w'.cell? ⟨tb, j * 5, none⟩ = some (.pointer (some ⟨(C j).g, 0, none⟩)) ∧ w'.cell? ⟨tb, j * 5 + 2, none⟩ = some (.int .i64 (qv (C j).l (C j).A)) ∧ w'.cell? ⟨tb, j * 5 + 3, none⟩ = some (.int .u64 (rv (C j).l (C j).A)) ∧ w'.cell? ⟨tb, j * 5 + 4, none⟩ = some (.int .u64 (C j).late) ∧ WW db nb w w')
              (first | with_reducible exact V1.out.drew | with_reducible exact V2.out | with_reducible exact V2.out.put2 hLn.out _ _)
              ((go_at_call 34; rw [WQ.out]; refine (take_any (C j).g (C j).l (C j).p (C j).b c (C j).A ((C j).nx c true dl) db (j * 5) (dl - (C j).late) HK.out.fit HK.out.hA rfl T2.out _ J1.out.gc (V1.out.ww.drew.ready (HD.out j hlt)) hgn.out.1).mono ?_; rintro e w2 ⟨rfl, hw2, hd2⟩; have V2 := hide (V1.out.drew.wr hLd.out hw2); obtain ⟨⟨v0, v1, e0, e1⟩, f0, f1⟩ := V2.out.ww.ready2 (HN.out j hlt)))
            have R2 := hide (RS.step R1.out hw2 (dec_take hd2) e0 e1)
            go_wp2_with fail
            go_roundw
            case rel => exact ⟨j + 1, by omega, by go_num, R2⟩
            case measure => simp [intOf]; omega
        · have i1 : ¬ (j : Int) < (k : Int) := by omega
          have e : j = k := by omega
          subst e
          cases ad
          · go_wp2_with fail
            go_ret2
            exact ⟨by rw [HAd.out]; rfl, by rw [HAd.out, HDl.out]; exact HR.out⟩
          · go_wp2_with fail
            go_ret2
            exact ⟨by rw [HAd.out, HDl.out]; rfl, by rw [HAd.out, HDl.out]; exact HR.out⟩
end Go.Proofs.Qxb6612665a.W
