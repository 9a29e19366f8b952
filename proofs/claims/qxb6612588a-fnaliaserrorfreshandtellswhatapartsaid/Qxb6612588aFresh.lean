import Derived.Test.Qxb6612588aParts
import Derived.LaidEqlPtr
import Derived.Deep.QuietTactic
import Derived.BigQuiet
namespace Go.Proofs.Qxb6612588a.W
open Go.RowKit

theorem grown_drewN {a w : World} (h : Grown a w) (n : Nat) : Grown a (w.drewN n) := h
theorem reason_some (what : ByteArray) : (reason what).toList.isEmpty = false := by
  have hr := reason_size what
  rw [Go.ByteArray.toList_eq]
  cases h : (reason what).data.toList
  · rw [size_len, h] at hr
    simp at hr
  · rfl
theorem bytes_apart {a b : ByteArray} (h : a ≠ b) : (a.toList == b.toList) = false := by
  rw [Go.ByteArray.toList_eq, Go.ByteArray.toList_eq, beq_eq_false_iff_ne]
  exact fun e => h (ba_ext e)
theorem ptr_apart (w : World) (c1 c2 c3 : Array Value) :
    (binOp .eql 27 (.pointer (some ⟨w.heap.size, 0, none⟩)) (.pointer (some ⟨w.heap.size + 1, 0, none⟩))).run Try.prog (((w.alloc (.cells c1 30)).alloc (.cells c2 30)).alloc (.cells c3 30)) = .ok (.bool false) (((w.alloc (.cells c1 30)).alloc (.cells c2 30)).alloc (.cells c3 30)) := by
  obtain ⟨j, hj, hs⟩ : ∃ j, Try.prog.info? 30 = some j ∧ j.size ≠ 0 := ⟨_, rfl, by decide⟩
  refine run_eql_ptr_other (ca := c1) (cb := c2) (ta := 30) (tb := 30) _ Try.underlying27 hj hs (by intro h; injection h with h; omega) ?_ ?_
  · show (((w.heap.push _).push _).push _)[w.heap.size]? = _
    rw [Array.getElem?_push, if_neg (by simp; omega), Array.getElem?_push, if_neg (by simp), Array.getElem?_push, if_pos rfl]
  · show (((w.heap.push _).push _).push _)[w.heap.size + 1]? = _
    rw [Array.getElem?_push, if_neg (by simp), Array.getElem?_push, if_pos (by simp)]

set_option maxRecDepth 100000 in
set_option maxHeartbeats 1000000 in
theorem fresh_same (key what : ByteArray) (line col : Int) (hk : key.size ≤ 262144) (hw : what.size ≤ 262144) (hsz : key.size + what.size + what.size ≤ 1048576) (w : World) :
    Calls Try.prog 5 #[.string key, .int .i64 line, .int .i64 col, .string what, .string what] w fun e w' => e = .returned (.bool true) ∧ Grown w w' := by
  have hp := ptr_apart w
  go_enter Try.func5, Try.ntmps5
  go_wp2_with (first | (go_at_call 12; go_in) | fail)
  refine (alias_any key what line col (by omega) _).mono ?_
  rintro e w1 ⟨rfl, rfl⟩
  go_wp2_with fail
  refine (alias_any key what line col (by omega) _).mono ?_
  rintro e w2 ⟨rfl, rfl⟩
  go_wp2_with fail
  refine (alias_any key what line col (by omega) _).mono ?_
  rintro e w3 ⟨rfl, rfl⟩
  go_wp2_with fail
  have hr := reason_size what
  have hne := reason_some what
  have hr2 : (reason what).size ≤ 1000000 := by omega
  clear hr
  generalize reason what = r at *
  go_quiet (fail)
  go_wp2_with fail
  go_quiet (fail)
  go_wp2_with fail
  go_ret
  exact ⟨rfl, ((grown_drewN ((((Grown.refl _).alloc _ _).alloc _ _).alloc _ _) _).setCell (Nat.le_refl _) _).setCell (Nat.le_refl _) _⟩
set_option maxRecDepth 100000 in
set_option maxHeartbeats 1000000 in
theorem fresh_other (key what what2 : ByteArray) (line col : Int) (hk : key.size ≤ 262144) (hw : what.size ≤ 262144) (hw2 : what2.size ≤ 262144) (hne2 : what ≠ what2) (hsz : key.size + what.size + what2.size ≤ 1048576) (w : World) :
    Calls Try.prog 5 #[.string key, .int .i64 line, .int .i64 col, .string what, .string what2] w fun e w' => e = .returned (.bool true) ∧ Grown w w' := by
  have HN : Hid (what ≠ what2) := hne2
  clear hne2
  have hp := ptr_apart w
  go_enter Try.func5, Try.ntmps5
  go_wp2_with (first | (go_at_call 12; go_in) | fail)
  refine (alias_any key what line col (by omega) _).mono ?_
  rintro e w1 ⟨rfl, rfl⟩
  go_wp2_with fail
  refine (alias_any key what line col (by omega) _).mono ?_
  rintro e w2 ⟨rfl, rfl⟩
  go_wp2_with fail
  refine (alias_any key what2 line col (by omega) _).mono ?_
  rintro e w3 ⟨rfl, rfl⟩
  go_wp2_with fail
  have hr := reason_size what
  have hne := reason_some what
  have hr2 : (reason what).size ≤ 1000000 := by omega
  clear hr
  have e1 := bytes_apart HN.out
  have e2 := bytes_apart (fun h => HN.out (reason_inj h))
  have hs2 := reason_size what2
  generalize reason what = r at *
  generalize reason what2 = r' at *
  go_quiet (fail)
  go_wp2_with fail
  go_quiet (fail)
  go_wp2_with fail
  go_ret
  exact ⟨rfl, ((grown_drewN ((((Grown.refl _).alloc _ _).alloc _ _).alloc _ _) _).setCell (Nat.le_refl _) _).setCell (Nat.le_refl _) _⟩

set_option maxRecDepth 100000 in
set_option maxHeartbeats 1000000 in
theorem fresh_big (key what what2 : ByteArray) (line col : Int) (hsz : key.size + what.size + what2.size ≤ 1048576) (hb : ¬ (key.size ≤ 262144 ∧ what.size ≤ 262144 ∧ what2.size ≤ 262144)) (w : World) :
    Calls Try.prog 5 #[.string key, .int .i64 line, .int .i64 col, .string what, .string what2] w fun e w' => e = .returned (.bool true) ∧ Grown w w' := by
  by_cases h1 : 262144 < key.size
  · go_enter Try.func5, Try.ntmps5
    go_wp2
    go_ret
    exact ⟨rfl, Grown.refl _⟩
  · by_cases h2 : 262144 < what.size
    · go_enter Try.func5, Try.ntmps5
      go_wp2
      go_ret
      exact ⟨rfl, Grown.refl _⟩
    · have h3 : 262144 < what2.size := by omega
      go_enter Try.func5, Try.ntmps5
      go_wp2
      go_ret
      exact ⟨rfl, Grown.refl _⟩
set_option maxRecDepth 100000 in
set_option maxHeartbeats 1000000 in
theorem fresh_huge (key what what2 : ByteArray) (line col : Int) (hsz : 1048576 < key.size + what.size + what2.size) (w : World) :
    Calls Try.prog 5 #[.string key, .int .i64 line, .int .i64 col, .string what, .string what2] w fun e w' => e = .returned (.bool true) ∧ Grown w w' := by
  go_enter Try.func5, Try.ntmps5
  go_wp2
  all_goals go_ret
  all_goals exact ⟨rfl, Grown.refl _⟩
end Go.Proofs.Qxb6612588a.W
