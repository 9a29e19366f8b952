import Derived.Test.Qxb6612610aBytes
import Derived.Deep.RegionWith
import Derived.Deep.RegionHeld3
namespace Go.Proofs.Qxb6612610a.W
open Go.RowKit

/-- the first k steps as the record keeps them -/
def said (ln : Nat → Int) (he : Nat → Bool) (k : Nat) : List (Int × Bool) := (List.range k).map fun i => (ln i, he i)
theorem said_len (ln : Nat → Int) (he : Nat → Bool) (k : Nat) : (said ln he k).length = k := by simp [said]
theorem said_succ (ln : Nat → Int) (he : Nat → Bool) (k : Nat) : said ln he (k + 1) = said ln he k ++ [(ln k, he k)] := by simp [said, List.range_succ]
theorem said_at (ln : Nat → Int) (he : Nat → Bool) (k i : Nat) (h : i < (said ln he k).length) : (said ln he k)[i] = (ln i, he i) := by simp [said]

theorem rec_drew {B fb fo T : Nat} {file : ByteArray} {L : List (Int × Bool)} {v : Value} {w : World} (h : Rec B fb fo T file L v w) : Rec B fb fo T file L v w.drew := ⟨h.block, h.row, h.base, h.kind⟩

theorem took_drew {B fb : Nat} {v v' : Value} {w w' : World} (h : Took B fb v v' w.drew w') : Took B fb v v' w w' := ⟨h.keeps, h.lies, h.os, h.tape, h.output, h.size⟩
theorem next_round {B fo T k : Nat} {name : ByteArray} {ln : Nat → Int} {he : Nat → Bool} {x : Bool} {v v' : Value} {w wr w' : World} (HK : Rec B B fo T name (said ln he k) v wr) (HB : Below B w wr) (hh : he k = x)
    (hR : Rec B B fo T name (said ln he k ++ [(ln k, x)]) v' w') (hT : Took B B v v' wr w') : Hid (Rec B B fo T name (said ln he (k + 1)) v' w') ∧ Hid (Below B w w') := by
  refine ⟨?_, ?_⟩
  · show Rec B B fo T name (said ln he (k + 1)) v' w'
    rw [said_succ, hh]; exact hR
  · obtain ⟨cs, c1, _⟩ := HK.block
    obtain ⟨xs, x1, _⟩ := HK.row
    have := block_lt c1
    exact took_below HB hT (Nat.le_refl _) x1 (by omega)

set_option maxRecDepth 100000 in
set_option maxHeartbeats 3200000 in
theorem order_fit (name : ByteArray) (b off len cap : Nat) (ln : Nat → Int) (col : Nat → ByteArray) (he : Nat → Bool) (w : World) (hn : name.size ≤ 1048576) (hl : len ≤ 32768) (hcs : ∀ i, i < len → (col i).size ≤ 9223372036854775807)
    (c0 : ∀ i, i < len → w.cell? ⟨b, off + i * 3, none⟩ = some (.int .i64 (ln i)))
    (c1 : ∀ i, i < len → w.cell? ⟨b, off + i * 3 + 1, none⟩ = some (.string (col i)))
    (c2 : ∀ i, i < len → w.cell? ⟨b, off + i * 3 + 2, none⟩ = some (.bool (he i))) :
    Calls Try.prog 4 #[.string name, .slice (some ⟨b, off, none⟩) len cap] w fun e w' => e = .returned (.bool true) ∧ Below w.heap.size w w' := by
  have C0 := hide c0
  have C1 := hide c1
  have C2 := hide c2
  have CS := hide hcs
  clear c0 c1 c2 hcs
  go_enter Try.func4, Try.ntmps4
  go_wp2_with fail
  refine (bytes12 name b off len cap col _ (by omega) (by omega) CS.out C1.out).mono ?_
  rintro e w1 ⟨⟨z, rfl, hz⟩, rfl⟩
  cases z with
  | false =>
    go_wp2_with fail
    go_ret
    exact ⟨rfl, Below.refl _ _⟩
  | true =>
    have HS := hide (hz rfl)
    clear hz CS
    go_wp2_with fail
    refine (big13 b off len cap col _ _ (by omega) (by omega) hl HS.out C1.out).mono ?_
    rintro e w1 ⟨⟨z, rfl⟩, rfl⟩
    cases z with
    | true =>
      go_wp2_with fail
      go_ret
      exact ⟨rfl, Below.refl _ _⟩
    | false =>
      go_wp2_with fail
      refine (newPrev w.heap.size name _ (Nat.le_refl _)).mono ?_
      rintro e w1 ⟨rfl, o, rfl, hR⟩
      have HR := hide hR
      clear hR
      go_wp2_with fail
      refine (warnings_any _ _ _ _ _ _ HR.out).mono ?_
      rintro e w1 ⟨rfl, rfl⟩
      go_wp2_with fail
      go_loopw [6] (fun i wr => ∃ (k : Nat) (v : Value), k ≤ len ∧ i = .int .i64 k ∧ Hid (Rec w.heap.size w.heap.size 4 61 name (said ln he k) v wr) ∧ Hid (Below w.heap.size w wr)) (fun i _ => len - (intOf i).toNat)
      case atStart => exact ⟨0, _, by omega, rfl, HR, hide ((Below.refl _ _).alloc (Nat.le_refl _) _)⟩
      case round =>
        obtain ⟨k, v, hk, rfl, HK, HB⟩ := hrel
        clear HR
        by_cases hlt : k < len
        · have g0 := C0.out k hlt
          have g1 := C1.out k hlt
          have g2 := C2.out k hlt
          have lb := World.block_lt_of_cell? w _ g0
          rw [← HB.out.cell (p := ⟨b, off + k * 3, none⟩) lb] at g0
          rw [← HB.out.cell (p := ⟨b, off + k * 3 + 1, none⟩) lb] at g1
          rw [← HB.out.cell (p := ⟨b, off + k * 3 + 2, none⟩) lb] at g2
          have i1 : (k : Int) < (len : Int) := by omega
          have i0 : (0 : Int) ≤ (k : Int) := by omega
          cases hh : he k with
          | true =>
            rw [hh] at g2
            have HH := hide hh
            clear hh lb
            go_wp2_with fail
            go_region_with (go_at_call 16; refine (prevErr w.heap.size w.heap.size name _ (said ln he k) _ v _ (rec_drew HK.out) HB.out.size (by rw [said_len]; omega)).mono ?_; rintro e w' ⟨rfl, v', hR, hT⟩)
            all_goals (have HN := next_round HK.out HB.out HH.out hR (took_drew hT); clear hR hT HK HB)
            all_goals go_wp2_with fail
            all_goals go_roundw
            all_goals first
              | (case rel => exact ⟨k + 1, v', by omega, by go_num, HN.1, HN.2⟩)
              | (case measure => simp [intOf]; omega)
          | false =>
            rw [hh] at g2
            have HH := hide hh
            clear hh lb
            go_wp2_with fail
            refine (prevNil w.heap.size w.heap.size name (said ln he k) _ v _ HK.out HB.out.size (by rw [said_len]; omega)).mono ?_
            rintro e w' ⟨rfl, v', hR, hT⟩
            have HN := next_round HK.out HB.out HH.out hR hT
            clear hR hT HK HB
            go_wp2_with fail
            go_roundw
            case rel => exact ⟨k + 1, v', by omega, by go_num, HN.1, HN.2⟩
            case measure => simp [intOf]; omega
        · have hkl : k = len := by omega
          subst hkl
          go_wp2_with fail
          refine (warnings_any _ _ _ _ _ _ HK.out).mono ?_
          rintro e w1 ⟨rfl, rfl⟩
          rcases rec_read HK.out with ⟨hv, h0⟩ | ⟨g, cap2, hv, hE⟩
          · rw [said_len] at h0
            subst h0
            rw [hv]
            clear hv
            go_wp2_with fail
            refine wp_loop_rounds 1 ?_
            rw [rounds_succ]
            go_wp2_with fail
            go_ret
            exact ⟨rfl, HB⟩
          · rw [said_len] at hv
            rw [hv]
            have HE := hide hE
            clear hv hE HK
            go_wp2_with fail
            go_loopw [8] (fun i w2 => ∃ (j n : Nat), j ≤ k ∧ i = .int .i64 j ∧ w2 = wr.drewN n) (fun i _ => k - (intOf i).toNat)
            case atStart => exact ⟨0, 0, by omega, rfl, rfl⟩
            case round =>
              obtain ⟨j, n, hj, rfl, rfl⟩ := hrel
              by_cases hjl : j < k
              · have g0 := C0.out j hjl
                have g2 := C2.out j hjl
                have lb := World.block_lt_of_cell? w _ g0
                rw [← HB.out.cell (p := ⟨b, off + j * 3, none⟩) lb] at g0
                rw [← HB.out.cell (p := ⟨b, off + j * 3 + 2, none⟩) lb] at g2
                have i1 : (j : Int) < (k : Int) := by omega
                have i0 : (0 : Int) ≤ (j : Int) := by omega
                obtain ⟨eb, err, q1, q2, q3⟩ := HE.out j (by rw [said_len]; exact hjl)
                rw [said_at] at q2 q3
                have Q2 := hide q2
                have Q3 := hide q3
                clear q2 q3
                go_wp2_with fail
                go_quiet ((go_at_call 11; exact matches_quiet eb name _ _ err wr n _ Q2.out Q3.out))
                go_wp2_with fail
                go_roundw
                case rel => exact ⟨j + 1, _, by omega, by go_num, rfl⟩
                case measure => simp [intOf]; omega
              · go_wp2_with fail
                go_ret
                exact ⟨rfl, below_drewN HB.out _⟩

set_option maxRecDepth 100000 in
set_option maxHeartbeats 1000000 in
theorem order_big (name : ByteArray) (b off len cap : Nat) (col : Nat → ByteArray) (w : World) (hn : name.size ≤ 9223372036854775807) (hl : len ≤ 9223372036854775807) (hcs : ∀ i, i < len → (col i).size ≤ 9223372036854775807)
    (c1 : ∀ i, i < len → w.cell? ⟨b, off + i * 3 + 1, none⟩ = some (.string (col i))) (hbig : ¬ (name.size ≤ 1048576 ∧ len ≤ 32768)) :
    Calls Try.prog 4 #[.string name, .slice (some ⟨b, off, none⟩) len cap] w fun e w' => e = .returned (.bool true) ∧ Below w.heap.size w w' := by
  have C1 := hide c1
  have CS := hide hcs
  clear c1 hcs
  go_enter Try.func4, Try.ntmps4
  go_wp2_with fail
  refine (bytes12 name b off len cap col _ hl hn CS.out C1.out).mono ?_
  rintro e w1 ⟨⟨z, rfl, hz⟩, rfl⟩
  clear hz CS C1
  cases z with
  | false =>
    go_wp2_with fail
    go_ret
    exact ⟨rfl, Below.refl _ _⟩
  | true =>
    by_cases h1 : name.size ≤ 1048576
    · have h2 : 32768 < len := by omega
      go_wp2_with fail
      go_ret
      exact ⟨rfl, Below.refl _ _⟩
    · go_wp2_with fail
      go_ret
      exact ⟨rfl, Below.refl _ _⟩

set_option maxHeartbeats 1000000 in
theorem bytes12_empty (name : ByteArray) (a : Option Addr) (cap : Nat) (w : World) (hn : name.size ≤ 9223372036854775807) :
    Calls Try.prog 12 #[.string name, .slice a 0 cap] w fun e w' => SaysBool e ∧ w = w' := by
  by_cases hsz : name.size ≤ 1048576
  · go_enter Try.func12, Try.ntmps12
    go_wp2
    refine wp_loop_rounds 1 ?_
    rw [rounds_succ]
    go_wp2
    go_ret
    exact ⟨says _, rfl⟩
  · go_enter Try.func12, Try.ntmps12
    go_wp2
    go_ret
    exact ⟨says _, rfl⟩
set_option maxHeartbeats 1000000 in
theorem big13_empty (a : Option Addr) (cap : Nat) (x : Int) (w : World) (hx2 : x ≤ 1048576) :
    Calls Try.prog 13 #[.slice a 0 cap, .int .i64 x] w fun e w' => SaysBool e ∧ w = w' := by
  go_enter Try.func13, Try.ntmps13
  go_wp2
  refine wp_loop_rounds 1 ?_
  rw [rounds_succ]
  go_wp2
  go_ret
  exact ⟨says _, rfl⟩

set_option maxRecDepth 100000 in
set_option maxHeartbeats 1000000 in
theorem order_empty (name : ByteArray) (a : Option Addr) (cap : Nat) (w : World) (hn : name.size ≤ 9223372036854775807) :
    Calls Try.prog 4 #[.string name, .slice a 0 cap] w fun e w' => e = .returned (.bool true) ∧ Below w.heap.size w w' := by
  go_enter Try.func4, Try.ntmps4
  go_wp2_with fail
  refine (bytes12_empty name a cap _ hn).mono ?_
  rintro e w1 ⟨⟨z, rfl⟩, rfl⟩
  cases z with
  | false =>
    go_wp2_with fail
    go_ret
    exact ⟨rfl, Below.refl _ _⟩
  | true =>
    by_cases h1 : name.size ≤ 1048576
    · go_wp2_with fail
      refine (big13_empty a cap _ _ (by omega)).mono ?_
      rintro e w1 ⟨⟨z, rfl⟩, rfl⟩
      cases z with
      | true =>
        go_wp2_with fail
        go_ret
        exact ⟨rfl, Below.refl _ _⟩
      | false =>
        go_wp2_with fail
        refine (newPrev w.heap.size name _ (Nat.le_refl _)).mono ?_
        rintro e w1 ⟨rfl, o, rfl, hR⟩
        have HR := hide hR
        clear hR
        go_wp2_with fail
        refine (warnings_any _ _ _ _ _ _ HR.out).mono ?_
        rintro e w1 ⟨rfl, rfl⟩
        go_wp2_with fail
        refine wp_loop_rounds 1 ?_
        rw [rounds_succ]
        go_wp2_with fail
        refine (warnings_any _ _ _ _ _ _ HR.out).mono ?_
        rintro e w1 ⟨rfl, rfl⟩
        go_wp2_with fail
        refine wp_loop_rounds 1 ?_
        rw [rounds_succ]
        go_wp2_with fail
        go_ret
        exact ⟨rfl, (Below.refl _ _).alloc (Nat.le_refl _) _⟩
    · go_wp2_with fail
      go_ret
      exact ⟨rfl, Below.refl _ _⟩
end Go.Proofs.Qxb6612610a.W
