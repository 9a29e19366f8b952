import Derived.Test.Qxb6612588aParts
import Derived.Deep.QuietTactic
import Derived.BigQuiet
namespace Go.Proofs.Qxb6612588a.W
open Go.RowKit

theorem grown_drewN {a w : World} (h : Grown a w) (n : Nat) : Grown a (w.drewN n) := h
theorem reason_some (what : ByteArray) : (reason what).toList.isEmpty = false := by
  have hr := reason_size what
  rw [Go.ByteArray.toList_eq]
  cases h : (reason what).data.toList
  · rw [size_len, h] at hr
    simp at hr
  · rfl

theorem data_extract (s : ByteArray) (a b : Nat) : (s.extract a b).data.toList = (s.data.toList.drop a).take (b - a) := by
  rw [ByteArray.data_extract, Array.toList_extract, List.extract_eq_take_drop]
theorem beq_of {a b : ByteArray} (h : a.data.toList = b.data.toList) : (a.toList == b.toList) = true := by
  rw [Go.ByteArray.toList_eq, Go.ByteArray.toList_eq, h]; simp
theorem same_head (a b : ByteArray) (k : Nat) (hk : k ≤ 23) : (((reason a).extract 0 k).toList == ((reason b).extract 0 k).toList) = true := by
  apply beq_of
  rw [data_extract, data_extract, data_reason, data_reason, List.drop_zero, List.drop_zero, List.take_append_of_le_length (by rw [pre_len]; omega), List.take_append_of_le_length (by rw [pre_len]; omega)]
theorem same_mid (a : ByteArray) : (((reason a).extract 23 (23 + a.size)).toList == a.toList) = true := by
  apply beq_of
  rw [data_extract, data_reason]
  have e : (pre.data.toList ++ (a.data.toList ++ suf.data.toList)).drop 23 = a.data.toList ++ suf.data.toList := List.drop_left' pre_len
  rw [e, show 23 + a.size - 23 = a.size from by omega, size_len]
  exact List.take_left' rfl
theorem same_foot (a : ByteArray) : (((reason a).extract (23 + a.size) (103 + a.size)).toList == ((reason ⟨#[]⟩).extract 23 103).toList) = true := by
  apply beq_of
  rw [data_extract, data_extract, data_reason, data_reason]
  have e : (pre.data.toList ++ (a.data.toList ++ suf.data.toList)).drop (23 + a.size) = suf.data.toList := by
    rw [← List.append_assoc]
    exact List.drop_left' (by rw [List.length_append, pre_len, size_len])
  have e2 : (pre.data.toList ++ ((⟨#[]⟩ : ByteArray).data.toList ++ suf.data.toList)).drop 23 = suf.data.toList := List.drop_left' pre_len
  rw [e, e2, show 103 + a.size - (23 + a.size) = 103 - 23 from by omega]

set_option maxRecDepth 100000 in
set_option maxHeartbeats 1000000 in
theorem places_fit (key what key2 : ByteArray) (line col line2 col2 : Int) (hk : key.size ≤ 262144) (hw : what.size ≤ 262144) (hk2 : key2.size ≤ 262144) (hsz : key.size + what.size + key2.size ≤ 1048576) (w : World) :
    Calls Try.prog 4 #[.string key, .int .i64 line, .int .i64 col, .string what, .string key2, .int .i64 line2, .int .i64 col2] w fun e w' => e = .returned (.bool true) ∧ Grown w w' := by
  go_enter Try.func4, Try.ntmps4
  go_wp2_with (first | (go_at_call 10; go_in) | fail)
  refine (alias_any key what line col (by omega) _).mono ?_
  rintro e w1 ⟨rfl, rfl⟩
  go_wp2_with fail
  refine (alias_any key2 _ line2 col2 (by decide) _).mono ?_
  rintro e w2 ⟨rfl, rfl⟩
  have hr := reason_size what
  have hf := reason_size ⟨#[]⟩
  have hne := reason_some ⟨#[]⟩
  have hr' : (reason what).size = 103 + what.size := by rw [hr]; omega
  have hf' : (reason ⟨#[]⟩).size = 103 := hf
  have HA : Hid (∀ k, k ≤ 23 → (((reason what).extract 0 k).toList == ((reason ⟨#[]⟩).extract 0 k).toList) = true) := fun k hk => same_head what ⟨#[]⟩ k hk
  have HB : Hid ((((reason what).extract 23 (23 + what.size)).toList == what.toList) = true) := same_mid what
  have HC : Hid ((((reason what).extract (23 + what.size) (103 + what.size)).toList == ((reason ⟨#[]⟩).extract 23 103).toList) = true) := same_foot what
  clear hf hr
  generalize reason what = r at *
  generalize reason ⟨#[]⟩ = f at *
  go_wp2_with fail
  go_loopw [19] (fun i wr => ∃ k n : Nat, k ≤ 23 ∧ i = .int .i64 k ∧ wr = World.drewN ((w.alloc (.cells #[.string key, .int .i64 line, .int .i64 col, .string r] 30)).alloc (.cells #[.string key2, .int .i64 line2, .int .i64 col2, .string f] 30)) n) (fun i _ => 23 - (intOf i).toNat)
  case atStart => exact ⟨0, 0, by omega, rfl, rfl⟩
  case round =>
    obtain ⟨k, n, hk, rfl, rfl⟩ := hrel
    have hA := HA.out k hk
    have i0 : (k : Int) ≤ 103 := by omega
    have i1 : (k : Int) ≤ 103 + (what.size : Int) := by omega
    have i2 : (k : Int) + (what.size : Int) ≤ 103 + (what.size : Int) := by omega
    cases hB : ((r.extract k (k + what.size)).toList == what.toList)
    · have hlt : k < 23 := by
        rcases Nat.lt_or_ge k 23 with h | h
        · exact h
        · have e : k = 23 := by omega
          subst e
          rw [HB.out] at hB; cases hB
      go_wp2_with fail
      go_quiet (fail)
      go_wp2_with fail
      go_roundw
      case rel => exact ⟨k + 1, _, by omega, by go_num, rfl⟩
      case measure => simp [intOf]; omega
    · cases hC : ((r.extract (k + what.size) (103 + what.size)).toList == (f.extract k 103).toList)
      · have hlt : k < 23 := by
          rcases Nat.lt_or_ge k 23 with h | h
          · exact h
          · have e : k = 23 := by omega
            subst e
            rw [HC.out] at hC; cases hC
        go_wp2_with fail
        go_quiet (fail)
        go_wp2_with fail
        go_roundw
        case rel => exact ⟨k + 1, _, by omega, by go_num, rfl⟩
        case measure => simp [intOf]; omega
      · go_wp2_with fail
        go_quiet (fail)
        go_wp2_with fail
        go_ret
        exact ⟨rfl, grown_drewN (grown_drewN (((Grown.refl _).alloc _ _).alloc _ _) _) _⟩

set_option maxRecDepth 100000 in
set_option maxHeartbeats 1000000 in
theorem places_big (key what key2 : ByteArray) (line col line2 col2 : Int) (hsz : key.size + what.size + key2.size ≤ 1048576) (hb : ¬ (key.size ≤ 262144 ∧ what.size ≤ 262144 ∧ key2.size ≤ 262144)) (w : World) :
    Calls Try.prog 4 #[.string key, .int .i64 line, .int .i64 col, .string what, .string key2, .int .i64 line2, .int .i64 col2] w fun e w' => e = .returned (.bool true) ∧ Grown w w' := by
  by_cases h1 : 262144 < key.size
  · go_enter Try.func4, Try.ntmps4
    go_wp2
    go_ret
    exact ⟨rfl, Grown.refl _⟩
  · by_cases h2 : 262144 < what.size
    · go_enter Try.func4, Try.ntmps4
      go_wp2
      go_ret
      exact ⟨rfl, Grown.refl _⟩
    · have h3 : 262144 < key2.size := by omega
      go_enter Try.func4, Try.ntmps4
      go_wp2
      go_ret
      exact ⟨rfl, Grown.refl _⟩
set_option maxRecDepth 100000 in
set_option maxHeartbeats 1000000 in
theorem places_huge (key what key2 : ByteArray) (line col line2 col2 : Int) (hsz : 1048576 < key.size + what.size + key2.size) (w : World) :
    Calls Try.prog 4 #[.string key, .int .i64 line, .int .i64 col, .string what, .string key2, .int .i64 line2, .int .i64 col2] w fun e w' => e = .returned (.bool true) ∧ Grown w w' := by
  go_enter Try.func4, Try.ntmps4
  go_wp2
  all_goals go_ret
  all_goals exact ⟨rfl, Grown.refl _⟩
end Go.Proofs.Qxb6612588a.W
