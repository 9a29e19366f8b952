import Derived.Test.Qxb6612610aBytes
namespace Go.Proofs.Qxb6612610a.W
open Go.RowKit

set_option maxHeartbeats 1000000 in
theorem bytes5 (f1 f2 : ByteArray) (b off len cap : Nat) (col : Nat → ByteArray) (w : World) (hl : len ≤ 9223372036854775807) (hn : f1.size ≤ 9223372036854775807) (hn2 : f2.size ≤ 9223372036854775807) (hcs : ∀ i, i < len → (col i).size ≤ 9223372036854775807)
    (hc : ∀ i, i < len → w.cell? ⟨b, off + i * 4 + 1, none⟩ = some (.string (col i))) :
    Calls Try.prog 5 #[.string f1, .string f2, .slice (some ⟨b, off, none⟩) len cap] w fun e w' => Fits col len e ∧ w = w' := by
  have HC : Hid (∀ i, i < len → w.cell? ⟨b, off + i * 4 + 1, none⟩ = some (.string (col i))) := hc
  have HS : Hid (∀ i, i < len → (col i).size ≤ 9223372036854775807) := hcs
  clear hc hcs
  by_cases hsz : f1.size + f2.size + len ≤ 1048576
  · clear hl hn hn2
    go_enter Try.func5, Try.ntmps5
    go_wp2
    go_loop [7, 8] (fun z i => ∃ (k : Nat) (s : Int), k ≤ len ∧ 0 ≤ s ∧ s ≤ 1048576 ∧ i = .int .i64 k ∧ z = .int .i64 s ∧ Hid (Short col k)) (fun _ i => len - (intOf i).toNat)
    case atStart => exact ⟨0, _, by omega, by omega, by omega, rfl, rfl, fun i hi => by omega⟩
    case round =>
      obtain ⟨k, s, hk, h0, h1, rfl, rfl, HK⟩ := hrel
      by_cases hlt : k < len
      · have g := HC.out k hlt
        have gs := HS.out k hlt
        have i1 : (k : Int) < (len : Int) := by omega
        by_cases hbig : (col k).size ≤ 1048576
        · by_cases hs2 : s + (col k).size ≤ 1048576
          · go_wp2
            go_round
            case rel => exact ⟨k + 1, s + (col k).size, by omega, by omega, by omega, by go_num, rfl, short_succ HK.out hbig⟩
            case measure => simp [intOf]; omega
          · go_wp2
            go_ret
            exact ⟨fits_no _ _, rfl⟩
        · go_wp2
          go_ret
          exact ⟨fits_no _ _, rfl⟩
      · go_wp2
        go_ret
        exact ⟨fits_yes (fun i hi => HK.out i (by omega)), rfl⟩
  · go_enter Try.func5, Try.ntmps5
    go_wp2
    all_goals go_ret
    all_goals exact ⟨fits_no _ _, rfl⟩

set_option maxHeartbeats 1000000 in
theorem big6 (b off len cap : Nat) (col : Nat → ByteArray) (x : Int) (w : World) (hx : 0 ≤ x) (hx2 : x ≤ 1048576) (hl : len ≤ 32768) (hcs : Short col len)
    (hc : ∀ i, i < len → w.cell? ⟨b, off + i * 4 + 1, none⟩ = some (.string (col i))) :
    Calls Try.prog 6 #[.slice (some ⟨b, off, none⟩) len cap, .int .i64 x] w fun e w' => SaysBool e ∧ w = w' := by
  have HC : Hid (∀ i, i < len → w.cell? ⟨b, off + i * 4 + 1, none⟩ = some (.string (col i))) := hc
  clear hc
  go_enter Try.func6, Try.ntmps6
  go_wp2
  go_loop [5, 6] (fun z i => ∃ (k : Nat) (s : Int), k ≤ len ∧ 0 ≤ s ∧ s ≤ 1048576 ∧ i = .int .i64 k ∧ z = .int .i64 s) (fun _ i => len - (intOf i).toNat)
  case atStart => exact ⟨0, _, by omega, by omega, by omega, rfl, rfl⟩
  case round =>
    obtain ⟨k, s, hk, h0, h1, rfl, rfl⟩ := hrel
    by_cases hlt : k < len
    · have g := HC.out k hlt
      have gs := hcs k hlt
      have i1 : (k : Int) < (len : Int) := by omega
      by_cases hs2 : s + (40 + (col k).size) ≤ 1048576
      · go_wp2
        go_round
        case rel => exact ⟨k + 1, s + (40 + (col k).size), by omega, by omega, by omega, by go_num, rfl⟩
        case measure => simp [intOf]; omega
      · go_wp2
        go_ret
        exact ⟨says _, rfl⟩
    · go_wp2
      go_ret
      exact ⟨says _, rfl⟩
set_option maxHeartbeats 1000000 in
theorem bytes5_empty (f1 f2 : ByteArray) (a : Option Addr) (cap : Nat) (w : World) (hn : f1.size ≤ 9223372036854775807) (hn2 : f2.size ≤ 9223372036854775807) :
    Calls Try.prog 5 #[.string f1, .string f2, .slice a 0 cap] w fun e w' => SaysBool e ∧ w = w' := by
  by_cases hsz : f1.size + f2.size ≤ 1048576
  · go_enter Try.func5, Try.ntmps5
    go_wp2
    refine wp_loop_rounds 1 ?_
    rw [rounds_succ]
    go_wp2
    go_ret
    exact ⟨says _, rfl⟩
  · go_enter Try.func5, Try.ntmps5
    go_wp2
    all_goals go_ret
    all_goals exact ⟨says _, rfl⟩
set_option maxHeartbeats 1000000 in
theorem big6_empty (a : Option Addr) (cap : Nat) (x : Int) (w : World) (hx2 : x ≤ 1048576) :
    Calls Try.prog 6 #[.slice a 0 cap, .int .i64 x] w fun e w' => SaysBool e ∧ w = w' := by
  go_enter Try.func6, Try.ntmps6
  go_wp2
  refine wp_loop_rounds 1 ?_
  rw [rounds_succ]
  go_wp2
  go_ret
  exact ⟨says _, rfl⟩

end Go.Proofs.Qxb6612610a.W
