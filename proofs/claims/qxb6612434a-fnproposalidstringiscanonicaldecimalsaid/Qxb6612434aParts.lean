import Derived.Test.Qxb6612434aLeaves
import Derived.RowKit3
namespace Go.Proofs.Qxb6612434a.W
open Go.RowKit

theorem gtrans {a b c : World} (h : Grown a b) (k : Grown b c) : Grown a c :=
  ⟨World.keptBut_trans h.1 k.1, fun x => (k.2.1 x).trans (h.2.1 x), Nat.le_trans h.2.2 k.2.2⟩

/-- how two texts of one length compare -/
def ncmpL : List UInt8 → List UInt8 → Int
  | a :: x, b :: y => if a = b then ncmpL x y else if (a.toNat : Int) < (b.toNat : Int) then -1 else 1
  | _, _ => 0
def ncmp (x y : ByteArray) : Int := if x.size = y.size then ncmpL x.data.toList y.data.toList else if x.size < y.size then -1 else 1

theorem drop_at (s : ByteArray) (k : Nat) (h : k < s.size) : s.data.toList.drop k = s[k] :: s.data.toList.drop (k + 1) := by
  rw [List.drop_eq_getElem_cons (by simpa using h)]; rfl
theorem ncmpL_eq (x y : ByteArray) (k : Nat) (hx : k < x.size) (hy : k < y.size) (h : ((x[k].toNat : Int) != (y[k].toNat : Int)) = false) : ncmpL (x.data.toList.drop k) (y.data.toList.drop k) = ncmpL (x.data.toList.drop (k + 1)) (y.data.toList.drop (k + 1)) := by
  rw [drop_at x k hx, drop_at y k hy]
  have e : x[k] = y[k] := by
    have : (x[k].toNat : Int) = (y[k].toNat : Int) := by simpa using h
    exact UInt8.toNat_inj.1 (by omega)
  rw [ncmpL, if_pos e]
theorem ncmpL_lt (x y : ByteArray) (k : Nat) (hx : k < x.size) (hy : k < y.size) (h : ((x[k].toNat : Int) != (y[k].toNat : Int)) = true) (l : (x[k].toNat : Int) < (y[k].toNat : Int)) : ncmpL (x.data.toList.drop k) (y.data.toList.drop k) = -1 := by
  rw [drop_at x k hx, drop_at y k hy]
  have e : x[k] ≠ y[k] := by
    intro e; rw [e] at h; simp at h
  rw [ncmpL, if_neg e, if_pos l]
theorem ncmpL_gt (x y : ByteArray) (k : Nat) (hx : k < x.size) (hy : k < y.size) (h : ((x[k].toNat : Int) != (y[k].toNat : Int)) = true) (l : ¬ (x[k].toNat : Int) < (y[k].toNat : Int)) : ncmpL (x.data.toList.drop k) (y.data.toList.drop k) = 1 := by
  rw [drop_at x k hx, drop_at y k hy]
  have e : x[k] ≠ y[k] := by
    intro e; rw [e] at h; simp at h
  rw [ncmpL, if_neg e, if_neg l]
theorem ret_int {k : IntKind} {a b : Int} (h : a = b) : Ending.returned (.int k a) = .returned (.int k b) := by rw [h]

set_option maxHeartbeats 400000 in
theorem numCmp_any (x y s t : ByteArray) (hs : s.size ≤ 1048576) (_ht : t.size ≤ 1048576) (hx : Strips x s) (hy : Strips y t) (w : World) :
    Calls Try.prog 10 #[.string x, .string y] w fun e w' => e = .returned (.int .i64 (ncmp s t)) ∧ Grown w w' := by
  by_cases hl : s.size = t.size
  · have HN : Hid (ncmp s t = ncmpL (s.data.toList.drop 0) (t.data.toList.drop 0)) := by unfold Hid ncmp; rw [if_pos hl]; rfl
    have hne : ((s.size : Int) != (t.size : Int)) = false := by simp [hl]
    have HL := hide hl; clear hl
    go_enter Try.func10, Try.ntmps10
    go_wp2_with fail
    refine (hx _).mono ?_
    rintro e w1 ⟨rfl, rfl⟩
    go_wp2_with fail
    refine (hy _).mono ?_
    rintro e w1 ⟨rfl, rfl⟩
    go_wp2_with fail
    go_loopw [5] (fun i wr => ∃ k : Nat, k ≤ s.size ∧ i = .int .i64 k ∧ Hid (ncmp s t = ncmpL (s.data.toList.drop k) (t.data.toList.drop k)) ∧ Hid (Grown w wr)) (fun i _ => s.size - (intOf i).toNat)
    case atStart => exact ⟨0, Nat.zero_le _, rfl, HN, hide (Grown.refl _)⟩
    case round =>
      obtain ⟨k, hk, rfl, HK, HG⟩ := hrel
      by_cases hlt : k < s.size
      · have hlt2 : k < t.size := by have := HL.out; omega
        have i1 : (k : Int) < (s.size : Int) := by omega
        have i2 : (k : Int) < (t.size : Int) := by omega
        cases hq : ((s[k].toNat : Int) != (t[k].toNat : Int))
        · go_wp2
          go_region
          all_goals go_wp2
          all_goals go_roundw
          all_goals first
            | (case rel => exact ⟨k + 1, by omega, by go_num, hide (HK.out.trans (ncmpL_eq s t k hlt hlt2 hq)), HG⟩)
            | (case measure => simp [intOf]; omega)
        · by_cases hll : (s[k].toNat : Int) < (t[k].toNat : Int)
          · go_wp2
            go_region
            all_goals go_wp2
            all_goals go_region
            all_goals go_wp2
            all_goals go_ret
            all_goals exact ⟨ret_int ((HK.out.trans (ncmpL_lt s t k hlt hlt2 hq hll)).symm), HG⟩
          · go_wp2
            go_region
            all_goals go_wp2
            all_goals go_region
            all_goals go_wp2
            all_goals go_ret
            all_goals exact ⟨ret_int ((HK.out.trans (ncmpL_gt s t k hlt hlt2 hq (by omega))).symm), HG⟩
      · have HE : Hid (ncmp s t = 0) := by
          unfold Hid; rw [HK.out, List.drop_eq_nil_of_le (by simpa using (by omega : s.size ≤ k))]; rfl
        go_wp2
        go_ret
        exact ⟨ret_int HE.out.symm, HG⟩
  · have hne : ((s.size : Int) != (t.size : Int)) = true := by simp; omega
    by_cases hlt : s.size < t.size
    · have HN : Hid (ncmp s t = -1) := by unfold Hid ncmp; rw [if_neg hl, if_pos hlt]
      clear hl
      go_enter Try.func10, Try.ntmps10
      go_wp2_with fail
      refine (hx _).mono ?_
      rintro e w1 ⟨rfl, rfl⟩
      go_wp2_with fail
      refine (hy _).mono ?_
      rintro e w1 ⟨rfl, rfl⟩
      go_wp2_with fail
      go_ret
      exact ⟨ret_int HN.out.symm, Grown.refl _⟩
    · have HN : Hid (ncmp s t = 1) := by unfold Hid ncmp; rw [if_neg hl, if_neg hlt]
      clear hl
      go_enter Try.func10, Try.ntmps10
      go_wp2_with fail
      refine (hx _).mono ?_
      rintro e w1 ⟨rfl, rfl⟩
      go_wp2_with fail
      refine (hy _).mono ?_
      rintro e w1 ⟨rfl, rfl⟩
      go_wp2_with fail
      go_ret
      exact ⟨ret_int HN.out.symm, Grown.refl _⟩

theorem sameNumber_any (x y s : ByteArray) (hx : Strips x s) (hy : Strips y s) (w : World) :
    Calls Try.prog 9 #[.string x, .string y] w fun e w' => e = .returned (.bool true) ∧ w = w' := by
  go_enter Try.func9, Try.ntmps9
  go_wp2_with fail
  refine (hx _).mono ?_
  rintro e w1 ⟨rfl, rfl⟩
  go_wp2_with fail
  refine (hy _).mono ?_
  rintro e w1 ⟨rfl, rfl⟩
  go_wp2_with fail
  go_ret
  exact ⟨by simp, rfl⟩

theorem isDecimal_nought (w : World) :
    Calls Try.prog 8 #[.string ⟨#[48]⟩] w fun e w' => e = .returned (.bool true) ∧ w = w' := by
  go_enter Try.func8, Try.ntmps8
  go_wp2_with fail
  go_ret
  exact ⟨by simp, rfl⟩
theorem isDecimal_can (s : ByteArray) (hs : s.size ≤ 1048576) (h0 : 0 < s.size) (hc : canB s.data.toList = true) (w : World) :
    Calls Try.prog 8 #[.string s] w fun e w' => e = .returned (.bool true) ∧ w = w' := by
  have HC := hide hc
  clear hc
  go_enter Try.func8, Try.ntmps8
  go_wp2_with fail
  · go_ret
    exact ⟨by simp, rfl⟩
  · refine (digits_any s _ hs).mono ?_
    rintro e w1 ⟨rfl, rfl⟩
    go_wp2_with fail
    go_ret
    exact ⟨ret_bool HC.out, rfl⟩

theorem new_any (s : ByteArray) (w : World) :
    Calls Try.prog 6 #[.string s] w fun e w' => e = .returned (.agg #[.string s]) ∧ Grown w w' := by
  go_enter Try.func6, Try.ntmps6
  go_wp2
  exact bodyPost_ret (v := .agg #[.string s]) (by simp [results, Try.results6, go_sem]) rfl ⟨rfl, (Grown.refl _).alloc _ _⟩
theorem string_some (s : ByteArray) (h0 : 0 < s.size) (w : World) :
    Calls Try.prog 7 #[.agg #[.string s]] w fun e w' => e = .returned (.string s) ∧ Grown w w' := by
  have hne : s.toList.isEmpty = false := by
    rw [Go.ByteArray.toList_eq]
    cases h : s.data.toList
    · have h2 : s.data.size = 0 := by rw [← Array.length_toList, h]; rfl
      have h3 : s.size = 0 := h2
      omega
    · rfl
  go_enter Try.func7, Try.ntmps7
  go_wp2
  refine wp_loop_rounds 1 ?_
  rw [rounds_succ]
  go_wp2
  go_ret
  exact ⟨rfl, by repeat (first | exact Grown.refl _ | apply Grown.drew | apply Grown.alloc)⟩
theorem string_none (w : World) :
    Calls Try.prog 7 #[.agg #[.string ByteArray.empty]] w fun e w' => e = .returned (.string ⟨#[48]⟩) ∧ Grown w w' := by
  go_enter Try.func7, Try.ntmps7
  go_wp2
  refine wp_loop_rounds 2 ?_
  rw [rounds_succ]
  go_wp2
  rw [rounds_succ]
  go_wp2
  go_ret
  exact ⟨rfl, by repeat (first | exact Grown.refl _ | apply Grown.drew | apply Grown.alloc)⟩

/-- '(ProposalID).String' writes the id of digits a as the text s -/
def Writes (a s : ByteArray) : Prop := ∀ w : World, Calls Try.prog 7 #[.agg #[.string a]] w fun e w' => e = .returned (.string s) ∧ Grown w w'
/-- 'isDecimal' says yes of s -/
def IsDec (s : ByteArray) : Prop := ∀ w : World, Calls Try.prog 8 #[.string s] w fun e w' => e = .returned (.bool true) ∧ w = w'

theorem wrote (a : ByteArray) (ha : a.size ≤ 1048576) (hc : canB a.data.toList = true) : ∃ s, Writes a s ∧ IsDec s ∧ Strips s a := by
  by_cases h0 : 0 < a.size
  · exact ⟨a, string_some a h0, isDecimal_can a ha h0 hc, strips_same a ha hc⟩
  · have e := empty_of a (by omega)
    subst e
    exact ⟨_, string_none, isDecimal_nought, strips_nought⟩
end Go.Proofs.Qxb6612434a.W
