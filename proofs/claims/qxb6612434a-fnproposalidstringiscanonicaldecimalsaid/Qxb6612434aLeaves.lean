import Derived.Test.Qxb6612434aRows
import Derived.WalkKit
import Derived.WalkSpells
import Derived.WalkLawsBesides
import Derived.RegionTactic
import Derived.ChangeAlike
namespace Go.Proofs.Qxb6612434a.W
open Go.RowKit

/-- is the byte a decimal digit? -/
def digB (c : UInt8) : Bool := decide (48 ≤ (c.toNat : Int)) && decide ((c.toNat : Int) ≤ 57)
/-- the bytes of a canonical decimal, the empty text for 0 -/
def canB (l : List UInt8) : Bool := (l.head? != some 48) && l.all digB

theorem hide {p : Prop} (h : p) : Hid p := h
theorem empty_of (s : ByteArray) (h : s.size = 0) : s = ByteArray.empty := by
  apply ByteArray.ext
  apply Array.ext'
  exact List.eq_nil_of_length_eq_zero (by simpa using h)
theorem take_snoc (s : ByteArray) (k : Nat) (h : k < s.size) : s.data.toList.take (k + 1) = s.data.toList.take k ++ [s[k]] := by
  rw [List.take_succ_eq_append_getElem (by simpa using h)]; rfl
theorem mem_at (s : ByteArray) (k : Nat) (h : k < s.size) : s[k] ∈ s.data.toList := by
  have : s[k] = s.data.toList[k]'(by simpa using h) := rfl
  rw [this]; exact List.getElem_mem _
theorem head_at (s : ByteArray) (h : 0 < s.size) : s.data.toList.head? = some s[0] := by
  have e : s[0] = s.data.toList[0]'(by simpa using h) := rfl
  rw [e, List.head?_eq_getElem?, List.getElem?_eq_getElem]
theorem no_head (s : ByteArray) (h : ¬ 0 < s.size) : s.data.toList.head? = none := by
  have : s.data.toList = [] := List.eq_nil_of_length_eq_zero (by simpa using (by omega : s.size = 0))
  rw [this]; rfl
theorem u8_eq {c : UInt8} (h : ((c.toNat : Int) == 48) = true) : c = 48 := by
  have h' : (c.toNat : Int) = 48 := by simpa using h
  exact UInt8.toNat_inj.1 (by show c.toNat = 48; omega)
theorem u8_ne {c : UInt8} (h : ((c.toNat : Int) == 48) = false) : c ≠ 48 := by
  intro e; subst e; simp at h
theorem canB_zero (s : ByteArray) (h : 0 < s.size) (e : ((s[0].toNat : Int) == 48) = true) : canB s.data.toList = false := by
  unfold canB; rw [head_at s h, u8_eq e]; rfl
theorem canB_bad (s : ByteArray) (k : Nat) (h : k < s.size) (e : digB s[k] = false) : canB s.data.toList = false := by
  unfold canB
  have : s.data.toList.all digB = false := by
    rw [List.all_eq_false]; exact ⟨s[k], mem_at s k h, by simp [e]⟩
  rw [this, Bool.and_false]
theorem canB_good (s : ByteArray) (k : Nat) (h : s.size ≤ k) (hh : (s.data.toList.head? != some 48) = true) (e : (s.data.toList.take k).all digB = true) : canB s.data.toList = true := by
  unfold canB
  rw [List.take_of_length_le (by simpa using h)] at e
  rw [hh, e]; rfl
theorem dig_lo {c : UInt8} (h : (c.toNat : Int) < 48) : digB c = false := by
  unfold digB; rw [decide_eq_false (by omega)]; rfl
theorem dig_hi {c : UInt8} (h : 57 < (c.toNat : Int)) : digB c = false := by
  unfold digB; rw [decide_eq_false (p := (c.toNat : Int) ≤ 57) (by omega), Bool.and_false]
theorem dig_ok {c : UInt8} (h : 48 ≤ (c.toNat : Int)) (h2 : (c.toNat : Int) ≤ 57) : digB c = true := by
  unfold digB; rw [decide_eq_true h, decide_eq_true h2]; rfl
theorem all_snoc {s : ByteArray} {k : Nat} (h : k < s.size) (e : (s.data.toList.take k).all digB = true) (d : digB s[k] = true) : (s.data.toList.take (k + 1)).all digB = true := by
  rw [take_snoc s k h, List.all_append, e]; simp [d]
theorem ret_bool {a b : Bool} (h : a = b) : Ending.returned (.bool a) = .returned (.bool b) := by rw [h]

set_option maxHeartbeats 400000 in
theorem digits_any (s : ByteArray) (w : World) (hs : s.size ≤ 1048576) :
    Calls Try.prog 5 #[.string s] w fun e w' => e = .returned (.bool (canB s.data.toList)) ∧ w = w' := by
  by_cases h0 : 0 < s.size
  · cases h1 : ((s[0].toNat : Int) == 48)
    · have hh : (s.data.toList.head? != some 48) = true := by
        rw [head_at s h0]; simpa using u8_ne h1
      have HH := hide hh; clear hh
      go_enter Try.func5, Try.ntmps5
      go_wp2
      go_loop [3] (fun i => ∃ k : Nat, k ≤ s.size ∧ i = .int .i64 k ∧ Hid ((s.data.toList.take k).all digB = true)) (fun i => s.size - (intOf i).toNat)
      case atStart => exact ⟨0, Nat.zero_le _, rfl, hide rfl⟩
      case round =>
        obtain ⟨k, hk, rfl, HA⟩ := hrel
        by_cases hlt : k < s.size
        · by_cases hd : (s[k].toNat : Int) < 48
          · go_wp2
            go_ret
            exact ⟨ret_bool (canB_bad s k hlt (dig_lo hd)).symm, rfl⟩
          · by_cases hd2 : 57 < (s[k].toNat : Int)
            · go_wp2
              go_ret
              exact ⟨ret_bool (canB_bad s k hlt (dig_hi hd2)).symm, rfl⟩
            · go_wp2
              go_round
              case rel => exact ⟨k + 1, by omega, by go_num, hide (all_snoc hlt HA.out (dig_ok (by omega) (by omega)))⟩
              case measure => simp [intOf]; omega
        · go_wp2
          go_ret
          exact ⟨ret_bool (canB_good s k (by omega) HH.out HA.out).symm, rfl⟩
    · go_enter Try.func5, Try.ntmps5
      go_wp2
      go_ret
      exact ⟨ret_bool (canB_zero s h0 h1).symm, rfl⟩
  · have e0 : s.size = 0 := by omega
    have hc : Hid (canB s.data.toList = true) := hide (canB_good s 0 (by omega) (by rw [no_head s h0]; rfl) rfl)
    go_enter Try.func5, Try.ntmps5
    go_wp2
    refine wp_loop_rounds 1 ?_
    rw [rounds_succ]
    go_wp2
    go_ret
    exact ⟨ret_bool hc.out.symm, rfl⟩

/-- 'stripZeros' takes s to t -/
def Strips (s t : ByteArray) : Prop := ∀ w : World, Calls Try.prog 12 #[.string s] w fun e w' => e = .returned (.string t) ∧ w = w'

set_option maxHeartbeats 400000 in
theorem strips_same (s : ByteArray) (hs : s.size ≤ 1048576) (hc : canB s.data.toList = true) : Strips s s := by
  intro w
  by_cases h0 : 0 < s.size
  · have h1 : ((s[0].toNat : Int) == 48) = false := by
      cases h : ((s[0].toNat : Int) == 48)
      · rfl
      · rw [canB_zero s h0 h] at hc; cases hc
    clear hc
    go_enter Try.func12, Try.ntmps12
    go_wp2
    refine wp_loop_rounds 1 ?_
    rw [rounds_succ]
    go_wp2
    go_ret
    exact ⟨rfl, rfl⟩
  · have e0 : s.size = 0 := by omega
    clear hc
    go_enter Try.func12, Try.ntmps12
    go_wp2
    refine wp_loop_rounds 1 ?_
    rw [rounds_succ]
    go_wp2
    go_ret
    exact ⟨congrArg (fun x => Ending.returned (.string x)) (empty_of s e0).symm, rfl⟩

theorem strips_nought : Strips ⟨#[48]⟩ ByteArray.empty := by
  intro w
  go_enter Try.func12, Try.ntmps12
  go_wp2
  refine wp_loop_rounds 2 ?_
  rw [rounds_succ]
  go_wp2
  rw [rounds_succ]
  go_wp2
  go_ret
  exact ⟨rfl, rfl⟩
end Go.Proofs.Qxb6612434a.W
