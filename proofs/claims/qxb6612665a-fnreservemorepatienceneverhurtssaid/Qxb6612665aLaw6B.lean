import Derived.Test.Qxb6612665aRow6
namespace Go.Proofs.Qxb6612665a.W
open Go.RowKit
set_option linter.unusedVariables false

set_option maxRecDepth 100000 in
set_option maxHeartbeats 2000000 in
theorem law6_coreB (D : Dat) (a0 a1 a2 a3 a4 a5 a6 : Option Addr) (n c0 c1 c2 c3 c4 c5 c6 : Nat) (c z8 z9 : Int) (hn : n ≤ 8192) (hsw : z8 > z9) (hc2 : c ≤ 9223372036854775807) (h8 : z8 ≤ 9223372036854775807) (h9 : z9 ≤ 9223372036854775807)
    (hwf : Wfs D.L D.P D.B D.NS D.FR n) (hlt : ∀ i, i < n → 0 ≤ D.LT i ∧ D.LT i < 18446744073709551616) (w : World) (hR : Rows7 D a0 a1 a2 a3 a4 a5 a6 n w) :
    Calls Try.prog 6 #[.slice a0 n c0, .slice a1 n c1, .slice a2 n c2, .slice a3 n c3, .slice a4 n c4, .slice a5 n c5, .slice a6 n c6, .int .i64 c, .int .i64 z8, .int .i64 z9] w fun e w' => e = .returned (.bool true) ∧ Below w.heap.size w w' := by
  have HR := hide hR
  have HWF := hide hwf
  have HLT := hide hlt
  have n1 : ¬ (n : Int) > 8192 := by omega
  have mk34 := make34 n hn
  have mk41 := make41 n hn
  have mk42 := make42 n hn
  clear hR hwf hlt
  go_enter Try.func6, Try.ntmps6
  go_wp2_with fail
  refine (bytes20 a0 a1 a2 a3 a4 a5 a6 n c0 n c1 n c2 n c3 n c4 n c5 n c6 c z8 z9 w).mono ?_
  rintro e w' ⟨r, rfl, rfl⟩
  cases r
  · go_wp2_with fail
    go_ret
    exact ⟨rfl, Below.refl _ _⟩
  · go_upto_region 24 with fail
    go_wp2_with (go_at_call 12; refine (fits_any a0 a1 a2 a4 a5 n c0 c1 c2 c4 c5 D.L D.P D.B D.NS D.FR c z8 hn (by omega) hc2 HWF.out w HR.out.r0 HR.out.r1 HR.out.r2 HR.out.r4 HR.out.r5).mono ?_; rintro e w' ⟨r, rfl, rfl, hfit⟩; have HFIT := hide hfit; clear hfit; cases r)
    · go_wp2_with fail
      go_ret
      exact ⟨rfl, Below.refl _ _⟩
    · obtain ⟨hc1, hF⟩ := HFIT.out (by trivial)
      have HF := hide hF
      clear HFIT hF
      obtain ⟨cn, rfl⟩ : ∃ cn : Nat, c = cn := ⟨c.toNat, by omega⟩
      go_wp2_with fail
      go_loopw [25] (fun iv wr => ∃ (k : Nat) (G : Nat → Nat), k ≤ n ∧ iv = .int .i64 k ∧ Hid (BL D G n w.heap.size k w wr)) (fun i _ => n - (intOf i).toNat)
      case atStart => exact ⟨0, fun _ => 0, Nat.zero_le _, rfl, hide BL.start⟩
      case round =>
        obtain ⟨k, G, hk, rfl, HB⟩ := hrel
        by_cases hlt : k < n
        · have i1 : (k : Int) < (n : Int) := by omega
          obtain ⟨x0, rfl, -, m0⟩ := HR.out.r0 k hlt
          obtain ⟨x1, rfl, -, m1⟩ := HR.out.r1 k hlt
          obtain ⟨x2, rfl, -, m2⟩ := HR.out.r2 k hlt
          obtain ⟨x3, rfl, -, m3⟩ := HR.out.r3 k hlt
          obtain ⟨x4, rfl, -, m4⟩ := HR.out.r4 k hlt
          obtain ⟨x5, rfl, -, m5⟩ := HR.out.r5 k hlt
          obtain ⟨x6, rfl, -, m6⟩ := HR.out.r6 k hlt
          have K0 := hide (S7.of HB.out.below HB.out.own m0 m1 m2 m3 m4 m5 m6)
          have hA := hide (show (x0.add k).block < w.heap.size ∧ (x1.add k).block < w.heap.size ∧ (x2.add k).block < w.heap.size ∧ (x3.add k).block < w.heap.size ∧ (x4.add k).block < w.heap.size ∧ (x5.add k).block < w.heap.size ∧ (x6.add k).block < w.heap.size from ⟨World.block_lt_of_cell? w _ m0, World.block_lt_of_cell? w _ m1, World.block_lt_of_cell? w _ m2, World.block_lt_of_cell? w _ m3, World.block_lt_of_cell? w _ m4, World.block_lt_of_cell? w _ m5, World.block_lt_of_cell? w _ m6⟩)
          have FA := hide (HF.out k hlt)
          have fr0 := hide (HWF.out.fr k hlt)
          have CA := hide (chk_A (D.NS k) (D.FR k) (D.L k) FA.out.l0 FA.out.ns0 fr0.out.1 FA.out.frl)
          have NL := hide (newgcraI (D.L k) (D.P k) (D.B k) FA.out.l0 (by have := FA.out.l1; omega) (by have := FA.out.p0; omega) (by have := FA.out.p1; omega) (by have := FA.out.cb; omega) (by have := FA.out.b1; omega) (Wfs.tol FA.out))
          clear m0 m1 m2 m3 m4 m5 m6
          go_upto_region 30 with fail
          go_region_held3 (fun w' => w'.cell? (x0.add k) = some (.int .u64 (D.L k)) ∧ w'.cell? (x1.add k) = some (.int .u64 (D.P k)) ∧ w'.cell? (x2.add k) = some (.int .i64 (D.B k)) ∧ w'.cell? (x3.add k) = some (.bool (D.Q k)) ∧ w'.cell? (x4.add k) = some (.int .i64 (D.NS k)) ∧ w'.cell? (x5.add k) = some (.int .u64 (D.FR k)) ∧ w'.cell? (x6.add k) = some (.int .u64 (D.LT k)) ∧ Below w.heap.size w w' ∧ Own w.heap.size w')
            (first | with_reducible exact K0.out.drew | with_reducible exact K1.out | with_reducible exact K1.out.put5 (Nat.le_refl _) hA.out _ _ _ _ _)
            ((go_at_call 13; refine (NL.out _).mono ?_; rintro e w1 ⟨rfl, hb1, hg1⟩; have K1 := hide (K0.out.drew.call hb1); have T1 := hide (HB.out.drew.call hb1); have GG1 := hide hg1; obtain ⟨v0, v1, v2, v3, v4, e0, e1, e2, e3, e4⟩ := T1.out.cells hlt; have fr := T1.out.own.2))
          have T2 := hide (BL.step T1.out GG1.out (by have := HB.out.own.1; show wr.heap.size ≠ w.heap.size; omega) CA.out.1 CA.out.2 e0 e1 e2 e3 e4)
          clear e0 e1 e2 e3 e4 fr
          go_wp2_with fail
          go_roundw
          case rel => exact ⟨k + 1, _, by omega, by go_num, T2⟩
          case measure => simp [intOf]; omega
        · have i1 : ¬ (k : Int) < (n : Int) := by omega
          have e : k = n := by omega
          subst e
          obtain ⟨C, hC⟩ := set6 (by omega) HB.out HF.out HWF.out HLT.out
          have HC := hide hC
          have lg1 := hide (lgv_ge (z8))
          have lg2 : Hid (z9 ≤ lgv (z8)) := by have := lg1.out; unfold Hid; omega
          have R1 := hide (reserve_fresh C cn k w.heap.size (z9) (lgv (z8)) hn hC.good wr hC.ins HB.out.own.1 #[.bool false, .int .i64 0, .int .i64 0, .int .i64 0, .int .i64 0] #[.int .i64 0, .int .u64 0] (lgv_nn _) lg2.out hC.sum)
          have HB0 := hide HB.out.below
          have tlt := hide HB.out.own.1
          clear i1 hlt hk HB hC
          go_wp2_with fail
          refine R1.out.mono ?_
          rintro e w1 ⟨rfl, hb1, z1, ds1, ns1⟩
          have HC1 := hide (HC.out.later hb1)
          have tl1 : Hid (w.heap.size < w1.heap.size) := by have := tlt.out; have := hb1.size; unfold Hid; omega
          have R2 := hide (reserve_fresh C cn k w.heap.size (z8) (lgv (z8)) hn HC1.out.good w1 HC1.out.ins tl1.out #[.bool false, .int .i64 0, .int .i64 0, .int .i64 0, .int .i64 0] #[.int .i64 0, .int .u64 0] (lgv_nn _) lg1.out HC1.out.sum)
          have HB1 := hide (HB0.out.trans (hb1.mono HB0.out.size))
          have Z1 := hide z1
          have DS1 := hide ds1
          have NS1 := hide ns1
          clear hb1 z1 ds1 ns1 R1 HB0
          go_wp2_with fail
          refine R2.out.mono ?_
          rintro e w2 ⟨rfl, hb2, z2, ds2, ns2⟩
          have HB2 := hide (HB1.out.trans (hb2.mono HB1.out.size))
          have DD1 := hide (fun i (hi : i < k) => (DS1.out i hi).call hb2)
          have NN1 := hide (fun i (hi : i < k) => NC.call (NS1.out i hi) hb2)
          have DD2 := hide ds2
          have NN2 := hide ns2
          have MO : Hid (adm C cn (z9) k = true → adm C cn (z8) k = true) := fun h => adm_mono (by omega) h
          have DE : Hid (adm C cn (z9) k = true → 0 < k → del C cn k ≤ z9) := fun h h0 => (adm_del HC.out.good h0 h).2
          have zz : Hid (wr.heap.size + 1 < w1.heap.size ∧ w1.heap.size + 1 < w2.heap.size) := ⟨Z1.out, z2⟩
          have HCG := hide HC.out
          clear hb2 z2 ds2 ns2 R2 HB1 DS1 NS1 Z1 HC1 HC tl1 tlt lg1 lg2 mk34 mk41 mk42
          generalize adm C cn (z9) k = ad1 at *
          generalize adm C cn (z8) k = ad2 at *
          generalize del C cn k = dl at *
          have OO : Hid (ad1 = true → dout ad1 dl = dout ad2 dl ∧ (0 < k → dout ad1 dl ≤ z9)) := fun h => by
            have h2 := MO.out h
            have h3 := DE.out h
            subst h h2
            exact ⟨rfl, h3⟩
          have RW := hide (fun (j : Nat) (hj : j < k) (A2 A4 A5 : Addr) (W : World) (m2 : w2.cell? A2 = some (.int .i64 (D.B j))) (m4 : w2.cell? A4 = some (.int .i64 (D.NS j))) (m5 : w2.cell? A5 = some (.int .u64 (D.FR j))) (hb : Below w2.heap.size w2 W) => row6 HCG.out hj MO.out (DD1.out j hj) (NN1.out j hj) (DD2.out j hj) (NN2.out j hj) m2 m4 m5 hb)
          clear DD1 NN1 DD2 NN2 HCG DE HF HWF HLT
          generalize wr.heap.size = s1 at *
          generalize w1.heap.size = s2 at *
          cases ad1
          · clear OO
            generalize dout false dl = o1 at *
            generalize dout ad2 dl = o2 at *
            go_wp2_with fail
            go_loopw [34] (fun iv wr => ∃ j : Nat, j ≤ k ∧ iv = .int .i64 j ∧ Hid (Below w2.heap.size w2 wr)) (fun i _ => k - (intOf i).toNat)
            case atStart => exact ⟨0, Nat.zero_le _, rfl, hide (Below.refl _ _)⟩
            case round =>
              obtain ⟨j, hj, rfl, HX⟩ := hrel
              by_cases hlt : j < k
              · have i1 : (j : Int) < (k : Int) := by omega
                obtain ⟨x2, rfl, -, m2⟩ := HR.out.r2 j hlt
                obtain ⟨x4, rfl, -, m4⟩ := HR.out.r4 j hlt
                obtain ⟨x5, rfl, -, m5⟩ := HR.out.r5 j hlt
                obtain ⟨al1, rm1, rt1, rs1, q1, r1, al2, rm2, rt2, rs2, q2, r2, hH, hc1, hc2', -⟩ := RW.out j hlt (x2.add j) (x4.add j) (x5.add j) wr (by rw [HB2.out.cell (World.block_lt_of_cell? w _ m2)]; exact m2) (by rw [HB2.out.cell (World.block_lt_of_cell? w _ m4)]; exact m4) (by rw [HB2.out.cell (World.block_lt_of_cell? w _ m5)]; exact m5) HX.out
                have H0 := hide hH
                have C1 := hide hc1
                have C2 := hide hc2'
                clear m2 m4 m5 hc1 hc2' HX
                obtain ⟨-, m4, m5, -⟩ := hH
                go_upto_region 44 with fail
                go_cut [35] (fun rp wx => ∃ rb, rp = .pointer (some ⟨rb, 0, none⟩) ∧ Hid (HA w2 ((⟨rb, 0, none⟩, .int .i64 (D.NS j)) :: (⟨rb, 1, none⟩, .int .u64 (D.FR j)) :: L6 (x2.add j) (x4.add j) (x5.add j) s1 (s1 + 1) s2 (s2 + 1) j (D.B j) (D.NS j) (D.FR j) al1 rm1 rt1 rs1 q1 r1 al2 rm2 rt2 rs2 q2 r2) wx))
                case first =>
                  have hLx := hide (HA.off H0.out)
                  have hqx := hide (HA.below H0.out).size
                  go_region_held3 (fun w' => w'.cell? (x2.add j) = some (.int .i64 (D.B j)) ∧ w'.cell? (x4.add j) = some (.int .i64 (D.NS j)) ∧ w'.cell? (x5.add j) = some (.int .u64 (D.FR j)) ∧ w'.cell? ⟨s1, j * 5, none⟩ = some (.bool al1) ∧ w'.cell? ⟨s1, j * 5 + 1, none⟩ = some (.int .i64 (D.B j)) ∧ w'.cell? ⟨s1, j * 5 + 2, none⟩ = some (.int .i64 rm1) ∧ w'.cell? ⟨s1, j * 5 + 3, none⟩ = some (.int .i64 rt1) ∧ w'.cell? ⟨s1, j * 5 + 4, none⟩ = some (.int .i64 rs1) ∧ w'.cell? ⟨s1 + 1, j * 2, none⟩ = some (.int .i64 q1) ∧ w'.cell? ⟨s1 + 1, j * 2 + 1, none⟩ = some (.int .u64 r1) ∧ w'.cell? ⟨s2, j * 5, none⟩ = some (.bool al2) ∧ w'.cell? ⟨s2, j * 5 + 1, none⟩ = some (.int .i64 (D.B j)) ∧ w'.cell? ⟨s2, j * 5 + 2, none⟩ = some (.int .i64 rm2) ∧ w'.cell? ⟨s2, j * 5 + 3, none⟩ = some (.int .i64 rt2) ∧ w'.cell? ⟨s2, j * 5 + 4, none⟩ = some (.int .i64 rs2) ∧ w'.cell? ⟨s2 + 1, j * 2, none⟩ = some (.int .i64 q2) ∧ w'.cell? ⟨s2 + 1, j * 2 + 1, none⟩ = some (.int .u64 r2) ∧ Below w2.heap.size w2 w')
                    (first | with_reducible exact H0.out | with_reducible exact H0.out.drew | with_reducible exact H0.out.drew.alloc _ | with_reducible exact (H0.out.alloc _).drew | with_reducible exact (H0.out.drew.alloc _).own2 _ hLx.out hqx.out _ _ | with_reducible exact (H0.out.alloc _).drew.own2 _ hLx.out hqx.out _ _)
                    (fail)
                  all_goals go_wp2_with fail
                  all_goals go_meet
                  exact ⟨_, rfl, (HA.box H0.out _ _ _).drew⟩
                case rest =>
                  obtain ⟨rb, rfl, HX⟩ := hcut
                  clear m4 m5 H0
                  go_upto_region 45 with fail
                  obtain ⟨-, -, e2, -, -, -, d1, -, -, -, -, -, -, d2, -⟩ := HX.out
                  go_quiet (fail)
                  have H1 := hide (HX.out.drewN nq)
                  generalize wc.drewN nq = w3 at *
                  clear e2 d1 d2 HX
                  go_upto_region 47 with fail
                  go_quiet (fail)
                  have H2 := hide (H1.out.drewN nq)
                  generalize w3.drewN nq = w4 at *
                  clear H1
                  go_upto_region 49 with fail
                  go_region_held3 (fun w' => w'.cell? ⟨rb, 0, none⟩ = some (.int .i64 (D.NS j)) ∧ w'.cell? ⟨rb, 1, none⟩ = some (.int .u64 (D.FR j)) ∧ w'.cell? (x2.add j) = some (.int .i64 (D.B j)) ∧ w'.cell? (x4.add j) = some (.int .i64 (D.NS j)) ∧ w'.cell? (x5.add j) = some (.int .u64 (D.FR j)) ∧ w'.cell? ⟨s1, j * 5, none⟩ = some (.bool al1) ∧ w'.cell? ⟨s1, j * 5 + 1, none⟩ = some (.int .i64 (D.B j)) ∧ w'.cell? ⟨s1, j * 5 + 2, none⟩ = some (.int .i64 rm1) ∧ w'.cell? ⟨s1, j * 5 + 3, none⟩ = some (.int .i64 rt1) ∧ w'.cell? ⟨s1, j * 5 + 4, none⟩ = some (.int .i64 rs1) ∧ w'.cell? ⟨s1 + 1, j * 2, none⟩ = some (.int .i64 q1) ∧ w'.cell? ⟨s1 + 1, j * 2 + 1, none⟩ = some (.int .u64 r1) ∧ w'.cell? ⟨s2, j * 5, none⟩ = some (.bool al2) ∧ w'.cell? ⟨s2, j * 5 + 1, none⟩ = some (.int .i64 (D.B j)) ∧ w'.cell? ⟨s2, j * 5 + 2, none⟩ = some (.int .i64 rm2) ∧ w'.cell? ⟨s2, j * 5 + 3, none⟩ = some (.int .i64 rt2) ∧ w'.cell? ⟨s2, j * 5 + 4, none⟩ = some (.int .i64 rs2) ∧ w'.cell? ⟨s2 + 1, j * 2, none⟩ = some (.int .i64 q2) ∧ w'.cell? ⟨s2 + 1, j * 2 + 1, none⟩ = some (.int .u64 r2) ∧ Below w2.heap.size w2 w')
                    (first | with_reducible exact H2.out | with_reducible exact H2.out.drew | with_reducible exact V1.out | with_reducible exact V1.out.drew | with_reducible exact V2.out)
                    (first
                      | (have hh := V1; clear hh; go_at_call 21; refine (C2.out _).mono ?_; rintro e w6 ⟨rfl, hb6⟩; have V2 := hide (V1.out.call hb6))
                      | (go_at_call 21; refine (C1.out _).mono ?_; rintro e w5 ⟨rfl, hb5⟩; have V1 := hide (H2.out.drew.call hb5)))
                  go_wp2_with fail
                  go_roundw
                  case rel => exact ⟨j + 1, by omega, by go_num, hide (HA.below V2.out)⟩
                  case measure => simp [intOf]; omega
              · have i1 : ¬ (j : Int) < (k : Int) := by omega
                go_wp2_with fail
                go_ret
                exact ⟨rfl, below_call HB2.out HX.out HB2.out.size⟩
          · obtain rfl : ad2 = true := MO.out rfl
            obtain ⟨-, od⟩ := OO.out rfl
            have OD := hide od
            clear od OO
            generalize dout true dl = o1 at *
            by_cases h0 : 0 < k
            · have i2 : (k : Int) > 0 := by omega
              have o1s : ¬ o1 > z9 := by have := OD.out h0; omega
              clear OD
              go_wp2_with fail
              go_loopw [34] (fun iv wr => ∃ j : Nat, j ≤ k ∧ iv = .int .i64 j ∧ Hid (Below w2.heap.size w2 wr)) (fun i _ => k - (intOf i).toNat)
              case atStart => exact ⟨0, Nat.zero_le _, rfl, hide (Below.refl _ _)⟩
              case round =>
                obtain ⟨j, hj, rfl, HX⟩ := hrel
                by_cases hlt : j < k
                · have i1 : (j : Int) < (k : Int) := by omega
                  obtain ⟨x2, rfl, -, m2⟩ := HR.out.r2 j hlt
                  obtain ⟨x4, rfl, -, m4⟩ := HR.out.r4 j hlt
                  obtain ⟨x5, rfl, -, m5⟩ := HR.out.r5 j hlt
                  obtain ⟨al1, rm1, rt1, rs1, q1, r1, al2, rm2, rt2, rs2, q2, r2, hH, hc1, hc2', heq⟩ := RW.out j hlt (x2.add j) (x4.add j) (x5.add j) wr (by rw [HB2.out.cell (World.block_lt_of_cell? w _ m2)]; exact m2) (by rw [HB2.out.cell (World.block_lt_of_cell? w _ m4)]; exact m4) (by rw [HB2.out.cell (World.block_lt_of_cell? w _ m5)]; exact m5) HX.out
                  obtain ⟨rfl, rfl, rfl, rfl, rfl, rfl⟩ := heq (by trivial)
                  have H0 := hide hH
                  have C1 := hide hc1
                  have C2 := hide hc2'
                  clear m2 m4 m5 hc1 hc2' HX
                  obtain ⟨-, m4, m5, -⟩ := hH
                  go_upto_region 44 with fail
                  go_cut [35] (fun rp wx => ∃ rb, rp = .pointer (some ⟨rb, 0, none⟩) ∧ Hid (HA w2 ((⟨rb, 0, none⟩, .int .i64 (D.NS j)) :: (⟨rb, 1, none⟩, .int .u64 (D.FR j)) :: L6 (x2.add j) (x4.add j) (x5.add j) s1 (s1 + 1) s2 (s2 + 1) j (D.B j) (D.NS j) (D.FR j) al1 rm1 rt1 rs1 q1 r1 al1 rm1 rt1 rs1 q1 r1) wx))
                  case first =>
                    have hLx := hide (HA.off H0.out)
                    have hqx := hide (HA.below H0.out).size
                    go_region_held3 (fun w' => w'.cell? (x2.add j) = some (.int .i64 (D.B j)) ∧ w'.cell? (x4.add j) = some (.int .i64 (D.NS j)) ∧ w'.cell? (x5.add j) = some (.int .u64 (D.FR j)) ∧ w'.cell? ⟨s1, j * 5, none⟩ = some (.bool al1) ∧ w'.cell? ⟨s1, j * 5 + 1, none⟩ = some (.int .i64 (D.B j)) ∧ w'.cell? ⟨s1, j * 5 + 2, none⟩ = some (.int .i64 rm1) ∧ w'.cell? ⟨s1, j * 5 + 3, none⟩ = some (.int .i64 rt1) ∧ w'.cell? ⟨s1, j * 5 + 4, none⟩ = some (.int .i64 rs1) ∧ w'.cell? ⟨s1 + 1, j * 2, none⟩ = some (.int .i64 q1) ∧ w'.cell? ⟨s1 + 1, j * 2 + 1, none⟩ = some (.int .u64 r1) ∧ w'.cell? ⟨s2, j * 5, none⟩ = some (.bool al1) ∧ w'.cell? ⟨s2, j * 5 + 1, none⟩ = some (.int .i64 (D.B j)) ∧ w'.cell? ⟨s2, j * 5 + 2, none⟩ = some (.int .i64 rm1) ∧ w'.cell? ⟨s2, j * 5 + 3, none⟩ = some (.int .i64 rt1) ∧ w'.cell? ⟨s2, j * 5 + 4, none⟩ = some (.int .i64 rs1) ∧ w'.cell? ⟨s2 + 1, j * 2, none⟩ = some (.int .i64 q1) ∧ w'.cell? ⟨s2 + 1, j * 2 + 1, none⟩ = some (.int .u64 r1) ∧ Below w2.heap.size w2 w')
                      (first | with_reducible exact H0.out | with_reducible exact H0.out.drew | with_reducible exact H0.out.drew.alloc _ | with_reducible exact (H0.out.alloc _).drew | with_reducible exact (H0.out.drew.alloc _).own2 _ hLx.out hqx.out _ _ | with_reducible exact (H0.out.alloc _).drew.own2 _ hLx.out hqx.out _ _)
                      (fail)
                    all_goals go_wp2_with fail
                    all_goals go_meet
                    exact ⟨_, rfl, (HA.box H0.out _ _ _).drew⟩
                  case rest =>
                    obtain ⟨rb, rfl, HX⟩ := hcut
                    clear m4 m5 H0
                    go_upto_region 45 with fail
                    obtain ⟨-, -, e2, -, -, -, d1, -, -, -, -, -, -, d2, -⟩ := HX.out
                    go_quiet (fail)
                    have H1 := hide (HX.out.drewN nq)
                    generalize wc.drewN nq = w3 at *
                    clear e2 d1 d2 HX
                    obtain ⟨-, -, -, -, -, g0, g1, g2, g3, g4, g5, g6, f0, f1, f2, f3, f4, f5, f6, -⟩ := H1.out
                    go_upto_region 47 with fail
                    go_quiet (fail)
                    have H2 := hide (H1.out.drewN nq)
                    clear g0 g1 g2 g3 g4 g5 g6 f0 f1 f2 f3 f4 f5 f6
                    generalize w3.drewN nq = w4 at *
                    clear H1
                    go_upto_region 49 with fail
                    go_region_held3 (fun w' => w'.cell? ⟨rb, 0, none⟩ = some (.int .i64 (D.NS j)) ∧ w'.cell? ⟨rb, 1, none⟩ = some (.int .u64 (D.FR j)) ∧ w'.cell? (x2.add j) = some (.int .i64 (D.B j)) ∧ w'.cell? (x4.add j) = some (.int .i64 (D.NS j)) ∧ w'.cell? (x5.add j) = some (.int .u64 (D.FR j)) ∧ w'.cell? ⟨s1, j * 5, none⟩ = some (.bool al1) ∧ w'.cell? ⟨s1, j * 5 + 1, none⟩ = some (.int .i64 (D.B j)) ∧ w'.cell? ⟨s1, j * 5 + 2, none⟩ = some (.int .i64 rm1) ∧ w'.cell? ⟨s1, j * 5 + 3, none⟩ = some (.int .i64 rt1) ∧ w'.cell? ⟨s1, j * 5 + 4, none⟩ = some (.int .i64 rs1) ∧ w'.cell? ⟨s1 + 1, j * 2, none⟩ = some (.int .i64 q1) ∧ w'.cell? ⟨s1 + 1, j * 2 + 1, none⟩ = some (.int .u64 r1) ∧ w'.cell? ⟨s2, j * 5, none⟩ = some (.bool al1) ∧ w'.cell? ⟨s2, j * 5 + 1, none⟩ = some (.int .i64 (D.B j)) ∧ w'.cell? ⟨s2, j * 5 + 2, none⟩ = some (.int .i64 rm1) ∧ w'.cell? ⟨s2, j * 5 + 3, none⟩ = some (.int .i64 rt1) ∧ w'.cell? ⟨s2, j * 5 + 4, none⟩ = some (.int .i64 rs1) ∧ w'.cell? ⟨s2 + 1, j * 2, none⟩ = some (.int .i64 q1) ∧ w'.cell? ⟨s2 + 1, j * 2 + 1, none⟩ = some (.int .u64 r1) ∧ Below w2.heap.size w2 w')
                      (first | with_reducible exact H2.out | with_reducible exact H2.out.drew | with_reducible exact V1.out | with_reducible exact V1.out.drew | with_reducible exact V2.out)
                      (first
                        | (have hh := V1; clear hh; go_at_call 21; refine (C2.out _).mono ?_; rintro e w6 ⟨rfl, hb6⟩; have V2 := hide (V1.out.call hb6))
                        | (go_at_call 21; refine (C1.out _).mono ?_; rintro e w5 ⟨rfl, hb5⟩; have V1 := hide (H2.out.drew.call hb5)))
                    go_wp2_with fail
                    go_roundw
                    case rel => exact ⟨j + 1, by omega, by go_num, hide (HA.below V2.out)⟩
                    case measure => simp [intOf]; omega
                · have i1 : ¬ (j : Int) < (k : Int) := by omega
                  go_wp2_with fail
                  go_ret
                  exact ⟨rfl, below_call HB2.out HX.out HB2.out.size⟩
            · have i2 : ¬ (k : Int) > 0 := by omega
              clear OD
              go_wp2_with fail
              go_loopw [34] (fun iv wr => ∃ j : Nat, j ≤ k ∧ iv = .int .i64 j ∧ Hid (Below w2.heap.size w2 wr)) (fun i _ => k - (intOf i).toNat)
              case atStart => exact ⟨0, Nat.zero_le _, rfl, hide (Below.refl _ _)⟩
              case round =>
                obtain ⟨j, hj, rfl, HX⟩ := hrel
                have i1 : ¬ (j : Int) < (k : Int) := by omega
                go_wp2_with fail
                go_ret
                exact ⟨rfl, below_call HB2.out HX.out HB2.out.size⟩
end Go.Proofs.Qxb6612665a.W
