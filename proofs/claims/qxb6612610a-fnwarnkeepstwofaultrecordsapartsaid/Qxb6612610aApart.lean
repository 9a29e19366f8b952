import Derived.Test.Qxb6612610aTwo
namespace Go.Proofs.Qxb6612610a.W
open Go.RowKit

set_option maxRecDepth 100000 in
set_option maxHeartbeats 3200000 in
theorem apart_fit (n1 n2 : ByteArray) (b off len cap : Nat) (ln : Nat → Int) (col : Nat → ByteArray) (he sec : Nat → Bool) (w : World) (hn1 : n1.size ≤ 1048576) (hn2 : n2.size ≤ 1048576) (hl : len ≤ 32768) (hcs : ∀ i, i < len → (col i).size ≤ 9223372036854775807)
    (c0 : ∀ i, i < len → w.cell? ⟨b, off + i * 4, none⟩ = some (.int .i64 (ln i)))
    (c1 : ∀ i, i < len → w.cell? ⟨b, off + i * 4 + 1, none⟩ = some (.string (col i)))
    (c2 : ∀ i, i < len → w.cell? ⟨b, off + i * 4 + 2, none⟩ = some (.bool (he i)))
    (c3 : ∀ i, i < len → w.cell? ⟨b, off + i * 4 + 3, none⟩ = some (.bool (sec i))) :
    Calls Try.prog 3 #[.string n1, .string n2, .slice (some ⟨b, off, none⟩) len cap] w fun e w' => e = .returned (.bool true) ∧ Below w.heap.size w w' := by
  have C0 := hide c0
  have C1 := hide c1
  have C2 := hide c2
  have C3 := hide c3
  have CS := hide hcs
  clear c0 c1 c2 c3 hcs
  go_enter Try.func3, Try.ntmps3
  go_wp2_with fail
  refine (bytes5 n1 n2 b off len cap col _ (by omega) (by omega) (by omega) CS.out C1.out).mono ?_
  rintro e w1 ⟨⟨z, rfl, hz⟩, rfl⟩
  cases z with
  | false =>
    go_wp2_with fail
    go_ret
    exact ⟨rfl, Below.refl _ _⟩
  | true =>
    have HS := hide (hz rfl)
    clear hz CS
    by_cases hsum : n1.size + n2.size ≤ 1048576
    · go_wp2_with fail
      refine (big6 b off len cap col _ _ (by omega) (by omega) hl HS.out C1.out).mono ?_
      rintro e w1 ⟨⟨z, rfl⟩, rfl⟩
      cases z with
      | true =>
        go_wp2_with fail
        go_ret
        exact ⟨rfl, Below.refl _ _⟩
      | false =>
        go_wp2_with fail
        refine (newFaults w.heap.size n1 _ (Nat.le_refl _)).mono ?_
        rintro e w1 ⟨rfl, o, rfl, hR1⟩
        have R1 := hide hR1
        clear hR1
        go_wp2_with fail
        refine (newFaults w.heap.size n2 _ (by simp)).mono ?_
        rintro e w1 ⟨rfl, o2, rfl, hR2⟩
        have hT : Two w.heap.size w.heap.size (w.heap.size + 1) n1 n2 [] [] (.slice none 0 0) (.slice none 0 0) ((w.alloc o).alloc o2) := ⟨rec_alloc R1.out o2, by simpa using hR2, by omega, fun g hg => by cases hg⟩
        have HT := hide hT
        clear hT hR2 R1
        go_wp2_with fail
        go_loopw [9] (fun i wr => ∃ (k : Nat) (v1 v2 : Value), k ≤ len ∧ i = .int .i64 k ∧ Hid (Two w.heap.size w.heap.size (w.heap.size + 1) n1 n2 (part ln he sec false k) (part ln he sec true k) v1 v2 wr) ∧ Hid (Below w.heap.size w wr)) (fun i _ => len - (intOf i).toNat)
        case atStart => exact ⟨0, _, _, by omega, rfl, HT, hide (((Below.refl _ _).alloc (Nat.le_refl _) _).alloc (by simp) _)⟩
        case round =>
          obtain ⟨k, v1, v2, hk, rfl, HK, HB⟩ := hrel
          clear HT
          by_cases hlt : k < len
          · have g0 := C0.out k hlt
            have g1 := C1.out k hlt
            have g2 := C2.out k hlt
            have g3 := C3.out k hlt
            have lb := World.block_lt_of_cell? w _ g0
            rw [← HB.out.cell (p := ⟨b, off + k * 4, none⟩) lb] at g0
            rw [← HB.out.cell (p := ⟨b, off + k * 4 + 1, none⟩) lb] at g1
            rw [← HB.out.cell (p := ⟨b, off + k * 4 + 2, none⟩) lb] at g2
            rw [← HB.out.cell (p := ⟨b, off + k * 4 + 3, none⟩) lb] at g3
            have i1 : (k : Int) < (len : Int) := by omega
            have i0 : (0 : Int) ≤ (k : Int) := by omega
            cases hh : he k with
            | true =>
              cases hs : sec k with
              | true =>
                rw [hh] at g2
                rw [hs] at g3
                have HH := hide hh
                have HX := hide hs
                clear hh hs lb
                go_wp2_with fail
                refine (faultsErr w.heap.size (w.heap.size + 1) n2 _ (part ln he sec true k) _ v2 _ (HK.out.alloc _).two (by have := HB.out.size; simp; omega) (by have := part_len ln he sec true k; omega)).mono ?_
                rintro e w' ⟨rfl, v', hR, hT⟩
                have HN := step_second HK.out HB.out HB.out.size HH.out HX.out hR hT
                clear hR hT HK HB
                go_wp2_with fail
                go_roundw
                case rel => exact ⟨k + 1, v1, v', by omega, by go_num, HN.1, HN.2⟩
                case measure => simp [intOf]; omega
              | false =>
                rw [hh] at g2
                rw [hs] at g3
                have HH := hide hh
                have HX := hide hs
                clear hh hs lb
                go_wp2_with fail
                refine (faultsErr w.heap.size w.heap.size n1 _ (part ln he sec false k) _ v1 _ (HK.out.alloc _).one (by have := HB.out.size; simp; omega) (by have := part_len ln he sec false k; omega)).mono ?_
                rintro e w' ⟨rfl, v', hR, hT⟩
                have HN := step_first HK.out HB.out HB.out.size HH.out HX.out hR hT
                clear hR hT HK HB
                go_wp2_with fail
                go_roundw
                case rel => exact ⟨k + 1, v', v2, by omega, by go_num, HN.1, HN.2⟩
                case measure => simp [intOf]; omega
            | false =>
              cases hs : sec k with
              | true =>
                rw [hh] at g2
                rw [hs] at g3
                have HH := hide hh
                have HX := hide hs
                clear hh hs lb
                go_wp2_with fail
                refine (faultsNil w.heap.size (w.heap.size + 1) n2 (part ln he sec true k) _ v2 _ (HK.out.alloc _).two (by have := HB.out.size; simp; omega) (by have := part_len ln he sec true k; omega)).mono ?_
                rintro e w' ⟨rfl, v', hR, hT⟩
                have HN := step_second HK.out HB.out HB.out.size HH.out HX.out hR hT
                clear hR hT HK HB
                go_wp2_with fail
                go_roundw
                case rel => exact ⟨k + 1, v1, v', by omega, by go_num, HN.1, HN.2⟩
                case measure => simp [intOf]; omega
              | false =>
                rw [hh] at g2
                rw [hs] at g3
                have HH := hide hh
                have HX := hide hs
                clear hh hs lb
                go_wp2_with fail
                refine (faultsNil w.heap.size w.heap.size n1 (part ln he sec false k) _ v1 _ (HK.out.alloc _).one (by have := HB.out.size; simp; omega) (by have := part_len ln he sec false k; omega)).mono ?_
                rintro e w' ⟨rfl, v', hR, hT⟩
                have HN := step_first HK.out HB.out HB.out.size HH.out HX.out hR hT
                clear hR hT HK HB
                go_wp2_with fail
                go_roundw
                case rel => exact ⟨k + 1, v', v2, by omega, by go_num, HN.1, HN.2⟩
                case measure => simp [intOf]; omega
          · have hkl : k = len := by omega
            subst hkl
            go_wp2_with fail
            refine (fwarnings_any _ _ _ _ _ _ HK.out.one).mono ?_
            rintro e w1 ⟨rfl, rfl⟩
            go_wp2_with fail
            refine (fwarnings_any _ _ _ _ _ _ HK.out.two).mono ?_
            rintro e w1 ⟨rfl, rfl⟩
            obtain ⟨ao1, cap1, hv1, hE1⟩ := rec_read' HK.out.one
            obtain ⟨ao2, cap2, hv2, hE2⟩ := rec_read' HK.out.two
            rw [hv1, hv2]
            have E1 := hide hE1
            have E2 := hide hE2
            clear hv1 hv2 hE1 hE2
            go_wp2_with fail
            go_loopw [13, 14, 15] (fun a1 a2 i w2 => ∃ (j : Nat), j ≤ k ∧ i = .int .i64 j ∧ a1 = .int .i64 (part ln he sec false j).length ∧ a2 = .int .i64 (part ln he sec true j).length ∧ Hid (Below wr.heap.size wr w2)) (fun _ _ i _ => k - (intOf i).toNat)
            case atStart => exact ⟨0, by omega, rfl, rfl, rfl, hide (Below.refl _ _)⟩
            case round =>
              obtain ⟨j, hj, rfl, rfl, rfl, H2⟩ := hrel
              clear HK
              by_cases hjl : j < k
              · have g0 := C0.out j hjl
                have g1 := C1.out j hjl
                have g2 := C2.out j hjl
                have g3 := C3.out j hjl
                have lb := World.block_lt_of_cell? w _ g0
                rw [← HB.out.cell (p := ⟨b, off + j * 4, none⟩) lb] at g0
                rw [← HB.out.cell (p := ⟨b, off + j * 4 + 1, none⟩) lb] at g1
                rw [← HB.out.cell (p := ⟨b, off + j * 4 + 2, none⟩) lb] at g2
                rw [← HB.out.cell (p := ⟨b, off + j * 4 + 3, none⟩) lb] at g3
                replace g0 := cell_later2 H2.out g0
                replace g1 := cell_later2 H2.out g1
                replace g2 := cell_later2 H2.out g2
                replace g3 := cell_later2 H2.out g3
                clear lb
                have i1 : (j : Int) < (k : Int) := by omega
                have i0 : (0 : Int) ≤ (j : Int) := by omega
                cases hs : sec j with
                | true =>
                  have HX := hide hs
                  rw [hs] at g3
                  clear hs
                  obtain ⟨hl2, hat2⟩ := part_at (ln := ln) (he := he) hjl HX.out
                  obtain ⟨g, eb, err, rfl, q1, q2, q3⟩ := E2.out _ hl2
                  rw [hat2] at q2 q3
                  have Q2 := hide (fun o => block_later (o := o) H2.out q2)
                  have Q3 := hide q3
                  have q1' := fun o => cell_later3 (o := o) H2.out q1
                  have hd : decide ((part ln he sec true k).length ≤ (part ln he sec true j).length) = false := decide_eq_false (by omega)
                  have i2 : ((part ln he sec true j).length : Int) < ((part ln he sec true k).length : Int) := by omega
                  have i3 : (part ln he sec true j).length ≤ 32768 := by have := part_len ln he sec true j; omega
                  clear q1 q2 q3 hat2 hl2
                  go_wp2_with fail
                  go_quiet ((go_at_call 11; exact matches_quiet0 eb n2 _ _ err _ _ (Q2.out _) Q3.out))
                  go_wp2_with fail
                  go_roundw
                  case rel => exact ⟨j + 1, by omega, by go_num, by rw [part_no (by rw [HX.out]; decide)], by rw [part_succ_len HX.out]; go_num, hide (below_drewN (H2.out.alloc H2.out.size _) _)⟩
                  case measure => simp [intOf]; omega
                | false =>
                  have HX := hide hs
                  rw [hs] at g3
                  clear hs
                  obtain ⟨hl2, hat2⟩ := part_at (ln := ln) (he := he) hjl HX.out
                  obtain ⟨g, eb, err, rfl, q1, q2, q3⟩ := E1.out _ hl2
                  rw [hat2] at q2 q3
                  have Q2 := hide (fun o => block_later (o := o) H2.out q2)
                  have Q3 := hide q3
                  have q1' := fun o => cell_later3 (o := o) H2.out q1
                  have hd : decide ((part ln he sec false k).length ≤ (part ln he sec false j).length) = false := decide_eq_false (by omega)
                  have i2 : ((part ln he sec false j).length : Int) < ((part ln he sec false k).length : Int) := by omega
                  have i3 : (part ln he sec false j).length ≤ 32768 := by have := part_len ln he sec false j; omega
                  clear q1 q2 q3 hat2 hl2
                  go_wp2_with fail
                  go_quiet ((go_at_call 11; exact matches_quiet0 eb n1 _ _ err _ _ (Q2.out _) Q3.out))
                  go_wp2_with fail
                  go_roundw
                  case rel => exact ⟨j + 1, by omega, by go_num, by rw [part_succ_len HX.out]; go_num, by rw [part_no (by rw [HX.out]; decide)], hide (below_drewN (H2.out.alloc H2.out.size _) _)⟩
                  case measure => simp [intOf]; omega
              · have hjk : j = k := by omega
                subst hjk
                go_wp2_with fail
                go_ret
                exact ⟨by simp, HB.out.trans (H2.out.mono HB.out.size)⟩
    · go_wp2_with fail
      refine (big6_over _ _ _ _ _ (by omega)).mono ?_
      rintro e w1 ⟨rfl, rfl⟩
      go_wp2_with fail
      go_ret
      exact ⟨rfl, Below.refl _ _⟩

set_option maxRecDepth 100000 in
set_option maxHeartbeats 1000000 in
theorem apart_big (n1 n2 : ByteArray) (b off len cap : Nat) (col : Nat → ByteArray) (w : World) (hn1 : n1.size ≤ 9223372036854775807) (hn2 : n2.size ≤ 9223372036854775807) (hl : len ≤ 9223372036854775807) (hcs : ∀ i, i < len → (col i).size ≤ 9223372036854775807)
    (c1 : ∀ i, i < len → w.cell? ⟨b, off + i * 4 + 1, none⟩ = some (.string (col i))) (hbig : ¬ (n1.size ≤ 1048576 ∧ n2.size ≤ 1048576 ∧ len ≤ 32768)) :
    Calls Try.prog 3 #[.string n1, .string n2, .slice (some ⟨b, off, none⟩) len cap] w fun e w' => e = .returned (.bool true) ∧ Below w.heap.size w w' := by
  have C1 := hide c1
  have CS := hide hcs
  clear c1 hcs
  go_enter Try.func3, Try.ntmps3
  go_wp2_with fail
  refine (bytes5 n1 n2 b off len cap col _ hl hn1 hn2 CS.out C1.out).mono ?_
  rintro e w1 ⟨⟨z, rfl, hz⟩, rfl⟩
  clear hz CS C1
  cases z with
  | false =>
    go_wp2_with fail
    go_ret
    exact ⟨rfl, Below.refl _ _⟩
  | true =>
    by_cases h1 : n1.size ≤ 1048576
    · by_cases h2 : n2.size ≤ 1048576
      · have h3 : 32768 < len := by omega
        go_wp2_with fail
        go_ret
        exact ⟨rfl, Below.refl _ _⟩
      · go_wp2_with fail
        go_ret
        exact ⟨rfl, Below.refl _ _⟩
    · go_wp2_with fail
      go_ret
      exact ⟨rfl, Below.refl _ _⟩

set_option maxRecDepth 100000 in
set_option maxHeartbeats 1000000 in
theorem apart_empty (n1 n2 : ByteArray) (a : Option Addr) (cap : Nat) (w : World) (hn1 : n1.size ≤ 9223372036854775807) (hn2 : n2.size ≤ 9223372036854775807) :
    Calls Try.prog 3 #[.string n1, .string n2, .slice a 0 cap] w fun e w' => e = .returned (.bool true) ∧ Below w.heap.size w w' := by
  go_enter Try.func3, Try.ntmps3
  go_wp2_with fail
  refine (bytes5_empty n1 n2 a cap _ hn1 hn2).mono ?_
  rintro e w1 ⟨⟨z, rfl⟩, rfl⟩
  cases z with
  | false =>
    go_wp2_with fail
    go_ret
    exact ⟨rfl, Below.refl _ _⟩
  | true =>
    by_cases h1 : n1.size ≤ 1048576
    · by_cases h2 : n2.size ≤ 1048576
      · by_cases hsum : n1.size + n2.size ≤ 1048576
        · go_wp2_with fail
          refine (big6_empty a cap _ _ (by omega)).mono ?_
          rintro e w1 ⟨⟨z, rfl⟩, rfl⟩
          cases z with
          | true =>
            go_wp2_with fail
            go_ret
            exact ⟨rfl, Below.refl _ _⟩
          | false =>
            go_wp2_with fail
            refine (newFaults w.heap.size n1 _ (Nat.le_refl _)).mono ?_
            rintro e w1 ⟨rfl, o, rfl, hR1⟩
            have R1 := hide hR1
            clear hR1
            go_wp2_with fail
            refine (newFaults w.heap.size n2 _ (by simp)).mono ?_
            rintro e w1 ⟨rfl, o2, rfl, hR2⟩
            have hT : Two w.heap.size w.heap.size (w.heap.size + 1) n1 n2 [] [] (.slice none 0 0) (.slice none 0 0) ((w.alloc o).alloc o2) := ⟨rec_alloc R1.out o2, by simpa using hR2, by omega, fun g hg => by cases hg⟩
            have HT := hide hT
            clear hT hR2 R1
            go_wp2_with fail
            refine wp_loop_rounds 1 ?_
            rw [rounds_succ]
            go_wp2_with fail
            refine (fwarnings_any _ _ _ _ _ _ HT.out.one).mono ?_
            rintro e w1 ⟨rfl, rfl⟩
            go_wp2_with fail
            refine (fwarnings_any _ _ _ _ _ _ HT.out.two).mono ?_
            rintro e w1 ⟨rfl, rfl⟩
            go_wp2_with fail
            refine wp_loop_rounds 1 ?_
            rw [rounds_succ]
            go_wp2_with fail
            go_ret
            exact ⟨rfl, ((Below.refl _ _).alloc (Nat.le_refl _) _).alloc (by simp) _⟩
        · go_wp2_with fail
          refine (big6_over _ _ _ _ _ (by omega)).mono ?_
          rintro e w1 ⟨rfl, rfl⟩
          go_wp2_with fail
          go_ret
          exact ⟨rfl, Below.refl _ _⟩
      · go_wp2_with fail
        go_ret
        exact ⟨rfl, Below.refl _ _⟩
    · go_wp2_with fail
      go_ret
      exact ⟨rfl, Below.refl _ _⟩
end Go.Proofs.Qxb6612610a.W
