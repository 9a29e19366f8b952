import Derived.Test.Qxb6612665aDiv
import Derived.RowKit3
namespace Go.Proofs.Qxb6612665a.W
open Go.RowKit
set_option linter.unusedVariables false

/-! ### A span of value V over the denominator l: its whole nanoseconds and the fraction -/
def qv (l V : Nat) : Int := ((V / l : Nat) : Int)
def rv (l V : Nat) : Int := ((V % l : Nat) : Int)
/-- .. rounded up -/
def cv (l V : Nat) : Int := (((V + (l - 1)) / l : Nat) : Int)

theorem qv_nn (l V : Nat) : 0 ≤ qv l V := Int.natCast_nonneg _
theorem rv_nn (l V : Nat) : 0 ≤ rv l V := Int.natCast_nonneg _
theorem rv_lt (l V : Nat) (h : 0 < l) : rv l V < l := by unfold rv; have := Nat.mod_lt V h; omega
theorem qr (l V : Nat) : (l : Int) * qv l V + rv l V = V := by
  unfold qv rv
  have := Nat.div_add_mod V l
  exact_mod_cast this
/-- quotient and rest are what they are by size alone -/
theorem qr_uniq (l V : Nat) (q r : Int) (hl : 0 < l) (h : (l : Int) * q + r = V) (h0 : 0 ≤ r) (h1 : r < l) : q = qv l V ∧ r = rv l V := by
  have hq := qr l V
  have a := rv_nn l V
  have b := rv_lt l V hl
  have hd : (l : Int) * (q - qv l V) = rv l V - r := by rw [Int.mul_sub]; omega
  have hz : q - qv l V = 0 := by
    rcases Int.lt_trichotomy (q - qv l V) 0 with h2 | h2 | h2
    · have : (l : Int) * (q - qv l V) ≤ (l : Int) * (-1) := Int.mul_le_mul_of_nonneg_left (by omega) (by omega)
      omega
    · exact h2
    · have : (l : Int) * 1 ≤ (l : Int) * (q - qv l V) := Int.mul_le_mul_of_nonneg_left (by omega) (by omega)
      omega
  rw [hz, Int.mul_zero] at hd
  exact ⟨by omega, by omega⟩

theorem sub_lt (l A B : Nat) (hl : 0 < l) (hBA : B ≤ A) (h : rv l A < rv l B) : qv l (A - B) = qv l A - qv l B - 1 ∧ rv l (A - B) = rv l A + l - rv l B := by
  have a := qr l A; have b := qr l B
  have := rv_nn l A; have := rv_lt l B hl; have := rv_lt l A hl; have := rv_nn l B
  obtain ⟨e1, e2⟩ := qr_uniq l (A - B) (qv l A - qv l B - 1) (rv l A + l - rv l B) hl (by rw [Int.mul_sub, Int.mul_sub]; omega) (by omega) (by omega)
  exact ⟨e1.symm, e2.symm⟩
theorem sub_ge (l A B : Nat) (hl : 0 < l) (hBA : B ≤ A) (h : ¬ rv l A < rv l B) : qv l (A - B) = qv l A - qv l B ∧ rv l (A - B) = rv l A - rv l B := by
  have a := qr l A; have b := qr l B
  have := rv_nn l A; have := rv_lt l B hl; have := rv_lt l A hl; have := rv_nn l B
  obtain ⟨e1, e2⟩ := qr_uniq l (A - B) (qv l A - qv l B) (rv l A - rv l B) hl (by rw [Int.mul_sub]; omega) (by omega) (by omega)
  exact ⟨e1.symm, e2.symm⟩
theorem add_ge (l A B : Nat) (hl : 0 < l) (h : (l : Int) ≤ rv l A + rv l B) : qv l (A + B) = qv l A + qv l B + 1 ∧ rv l (A + B) = rv l A + rv l B - l := by
  have a := qr l A; have b := qr l B
  have := rv_nn l A; have := rv_lt l B hl; have := rv_lt l A hl; have := rv_nn l B
  obtain ⟨e1, e2⟩ := qr_uniq l (A + B) (qv l A + qv l B + 1) (rv l A + rv l B - l) hl (by rw [Int.mul_add, Int.mul_add]; omega) (by omega) (by omega)
  exact ⟨e1.symm, e2.symm⟩
theorem add_lt (l A B : Nat) (hl : 0 < l) (h : ¬ (l : Int) ≤ rv l A + rv l B) : qv l (A + B) = qv l A + qv l B ∧ rv l (A + B) = rv l A + rv l B := by
  have a := qr l A; have b := qr l B
  have := rv_nn l A; have := rv_lt l B hl; have := rv_lt l A hl; have := rv_nn l B
  obtain ⟨e1, e2⟩ := qr_uniq l (A + B) (qv l A + qv l B) (rv l A + rv l B) hl (by rw [Int.mul_add]; omega) (by omega) (by omega)
  exact ⟨e1.symm, e2.symm⟩
theorem qv_mono (l A B : Nat) (h : A ≤ B) : qv l A ≤ qv l B := by unfold qv; have := Nat.div_le_div_right (c := l) h; omega
theorem less_iff (l A B : Nat) (hl : 0 < l) : A < B ↔ (qv l A < qv l B ∨ (qv l A = qv l B ∧ rv l A < rv l B)) := by
  have a := qr l A; have b := qr l B
  have := rv_nn l A; have := rv_lt l B hl; have := rv_lt l A hl; have := rv_nn l B
  constructor
  · intro h
    have hm := qv_mono l A B (by omega)
    rcases Int.lt_or_le (qv l A) (qv l B) with h1 | h1
    · exact .inl h1
    · have e : qv l A = qv l B := by omega
      refine .inr ⟨e, ?_⟩
      rw [e] at a
      omega
  · rintro (h | ⟨h, h'⟩)
    · rcases Nat.lt_or_ge A B with h1 | h1
      · exact h1
      · have := qv_mono l B A h1; omega
    · rw [h] at a; omega
theorem cv_zero (l V : Nat) (hl : 0 < l) (h : rv l V = 0) : cv l V = qv l V := by
  unfold cv qv
  unfold rv at h
  have h1 := Nat.div_add_mod V l
  have h2 : V % l = 0 := by omega
  have e : V + (l - 1) = (l - 1) + l * (V / l) := by omega
  rw [e, Nat.add_mul_div_left _ _ hl, Nat.div_eq_of_lt (a := l - 1) (by omega), Nat.zero_add]
theorem cv_pos (l V : Nat) (hl : 0 < l) (h : 0 < rv l V) : cv l V = qv l V + 1 := by
  unfold cv qv
  unfold rv at h
  have h1 := Nat.div_add_mod V l
  have h3 := Nat.mod_lt V hl
  have e : V + (l - 1) = (V % l - 1) + l * (V / l + 1) := by rw [Nat.mul_add, Nat.mul_one]; omega
  rw [e, Nat.add_mul_div_left _ _ hl, Nat.div_eq_of_lt (a := V % l - 1) (by omega), Nat.zero_add]
  rfl
theorem cv_bounds (l V : Nat) (hl : 0 < l) : qv l V ≤ cv l V ∧ cv l V ≤ qv l V + 1 := by
  have := rv_nn l V
  by_cases h : rv l V = 0
  · rw [cv_zero l V hl h]; omega
  · rw [cv_pos l V hl (by omega)]; omega

/-! ### The walks -/
theorem below1 (w : World) (a : Obj) : Below w.heap.size w (w.alloc a) := (Below.refl _ _).alloc (Nat.le_refl _) _
theorem below2 (w : World) (a b : Obj) : Below w.heap.size w ((w.alloc a).alloc b) := (below1 w a).alloc (by simp) _
theorem below3 (w : World) (a b c : Obj) : Below w.heap.size w (((w.alloc a).alloc b).alloc c) := (below2 w a b).alloc (by simp; omega) _
theorem below4 (w : World) (a b c d : Obj) : Below w.heap.size w ((((w.alloc a).alloc b).alloc c).alloc d) := (below3 w a b c).alloc (by simp; omega) _

set_option maxHeartbeats 1000000 in
theorem sub_any (l A B : Nat) (hl : 0 < l) (hl2 : l < 9223372036854775808) (hBA : B ≤ A) (hA : qv l A ≤ 9223372036854775807) (w : World) :
    Calls Try.prog 25 #[.agg #[.int .i64 (qv l A), .int .u64 (rv l A)], .agg #[.int .i64 (qv l B), .int .u64 (rv l B)], .int .u64 l] w fun e w' => e = .returned (.agg #[.int .i64 (qv l (A - B)), .int .u64 (rv l (A - B))]) ∧ Below w.heap.size w w' := by
  have a0 := qv_nn l A; have a1 := rv_nn l A; have a2 := rv_lt l A hl
  have b0 := qv_nn l B; have b1 := rv_nn l B; have b2 := rv_lt l B hl
  have hm := qv_mono l B A hBA
  have n0 := qv_nn l (A - B)
  by_cases h : rv l A < rv l B
  · obtain ⟨e1, e2⟩ := sub_lt l A B hl hBA h
    rw [e1] at n0 ⊢
    rw [e2]
    clear e1 e2
    go_enter Try.func25, Try.ntmps25
    go_wp2
    exact bodyPost_ret (v := .agg #[.int .i64 (qv l A - qv l B - 1), .int .u64 (rv l A + l - rv l B)]) (by simp [results, Try.results25, go_sem]) rfl ⟨rfl, below4 _ _ _ _ _⟩
  · obtain ⟨e1, e2⟩ := sub_ge l A B hl hBA h
    rw [e1] at n0 ⊢
    rw [e2]
    clear e1 e2
    go_enter Try.func25, Try.ntmps25
    go_wp2
    exact bodyPost_ret (v := .agg #[.int .i64 (qv l A - qv l B), .int .u64 (rv l A - rv l B)]) (by simp [results, Try.results25, go_sem]) rfl ⟨rfl, below4 _ _ _ _ _⟩

set_option maxHeartbeats 1000000 in
theorem add_any (l A B : Nat) (hl : 0 < l) (hl2 : l < 9223372036854775808) (hA : qv l (A + B) ≤ 9223372036854775807) (w : World) :
    Calls Try.prog 28 #[.agg #[.int .i64 (qv l A), .int .u64 (rv l A)], .agg #[.int .i64 (qv l B), .int .u64 (rv l B)], .int .u64 l] w fun e w' => e = .returned (.agg #[.int .i64 (qv l (A + B)), .int .u64 (rv l (A + B))]) ∧ Below w.heap.size w w' := by
  have a0 := qv_nn l A; have a1 := rv_nn l A; have a2 := rv_lt l A hl
  have b0 := qv_nn l B; have b1 := rv_nn l B; have b2 := rv_lt l B hl
  by_cases h : (l : Int) ≤ rv l A + rv l B
  · obtain ⟨e1, e2⟩ := add_ge l A B hl h
    rw [e1] at hA ⊢
    rw [e2]
    clear e1 e2
    go_enter Try.func28, Try.ntmps28
    go_wp2
    exact bodyPost_ret (v := .agg #[.int .i64 (qv l A + qv l B + 1), .int .u64 (rv l A + rv l B - l)]) (by simp [results, Try.results28, go_sem]) rfl ⟨rfl, below4 _ _ _ _ _⟩
  · obtain ⟨e1, e2⟩ := add_lt l A B hl h
    rw [e1] at hA ⊢
    rw [e2]
    clear e1 e2
    go_enter Try.func28, Try.ntmps28
    go_wp2
    exact bodyPost_ret (v := .agg #[.int .i64 (qv l A + qv l B), .int .u64 (rv l A + rv l B)]) (by simp [results, Try.results28, go_sem]) rfl ⟨rfl, below4 _ _ _ _ _⟩
set_option maxHeartbeats 1000000 in
theorem zzadd_any (l A B : Nat) (hl : 0 < l) (hl2 : l < 9223372036854775808) (hA : qv l (A + B) ≤ 9223372036854775807) (w : World) :
    Calls Try.prog 18 #[.agg #[.int .i64 (qv l A), .int .u64 (rv l A)], .agg #[.int .i64 (qv l B), .int .u64 (rv l B)], .int .u64 l] w fun e w' => e = .returned (.agg #[.int .i64 (qv l (A + B)), .int .u64 (rv l (A + B))]) ∧ Below w.heap.size w w' := by
  have a0 := qv_nn l A; have a1 := rv_nn l A; have a2 := rv_lt l A hl
  have b0 := qv_nn l B; have b1 := rv_nn l B; have b2 := rv_lt l B hl
  by_cases h : (l : Int) ≤ rv l A + rv l B
  · obtain ⟨e1, e2⟩ := add_ge l A B hl h
    rw [e1] at hA ⊢
    rw [e2]
    clear e1 e2
    go_enter Try.func18, Try.ntmps18
    go_wp2
    exact bodyPost_ret (v := .agg #[.int .i64 (qv l A + qv l B + 1), .int .u64 (rv l A + rv l B - l)]) (by simp [results, Try.results18, go_sem]) rfl ⟨rfl, below3 _ _ _ _⟩
  · obtain ⟨e1, e2⟩ := add_lt l A B hl h
    rw [e1] at hA ⊢
    rw [e2]
    clear e1 e2
    go_enter Try.func18, Try.ntmps18
    go_wp2
    exact bodyPost_ret (v := .agg #[.int .i64 (qv l A + qv l B), .int .u64 (rv l A + rv l B)]) (by simp [results, Try.results18, go_sem]) rfl ⟨rfl, below3 _ _ _ _⟩

set_option maxHeartbeats 1000000 in
theorem ceil_any (l A : Nat) (hl : 0 < l) (hA : cv l A ≤ 9223372036854775807) (w : World) :
    Calls Try.prog 27 #[.agg #[.int .i64 (qv l A), .int .u64 (rv l A)]] w fun e w' => e = .returned (.int .i64 (cv l A)) ∧ Below w.heap.size w w' := by
  have a0 := qv_nn l A; have a1 := rv_nn l A
  by_cases h : rv l A = 0
  · rw [cv_zero l A hl h] at hA ⊢
    have h1 : rv l A ≤ 0 := by omega
    clear h
    go_enter Try.func27, Try.ntmps27
    go_wp2
    go_ret
    exact ⟨rfl, below1 _ _⟩
  · have h1 : 0 < rv l A := by omega
    rw [cv_pos l A hl h1] at hA ⊢
    clear h
    go_enter Try.func27, Try.ntmps27
    go_wp2
    go_ret
    exact ⟨rfl, below1 _ _⟩
set_option maxHeartbeats 1000000 in
theorem zzceil_any (l A : Nat) (hl : 0 < l) (hA : cv l A ≤ 9223372036854775807) (w : World) :
    Calls Try.prog 17 #[.agg #[.int .i64 (qv l A), .int .u64 (rv l A)]] w fun e w' => e = .returned (.int .i64 (cv l A)) ∧ Below w.heap.size w w' := by
  have a0 := qv_nn l A; have a1 := rv_nn l A
  by_cases h : rv l A = 0
  · rw [cv_zero l A hl h] at hA ⊢
    have h1 : rv l A ≤ 0 := by omega
    clear h
    go_enter Try.func17, Try.ntmps17
    go_wp2
    go_ret
    exact ⟨rfl, below1 _ _⟩
  · have h1 : 0 < rv l A := by omega
    rw [cv_pos l A hl h1] at hA ⊢
    clear h
    go_enter Try.func17, Try.ntmps17
    go_wp2
    go_ret
    exact ⟨rfl, below1 _ _⟩

/-- A below B? -/
def ltB (A B : Nat) : Bool := decide (A < B)
theorem ltB_yes {A B : Nat} (h : A < B) : ltB A B = true := decide_eq_true h
theorem ltB_no {A B : Nat} (h : ¬ A < B) : ltB A B = false := decide_eq_false h
theorem ret_bool {a b : Bool} (h : a = b) : Ending.returned (.bool a) = .returned (.bool b) := by rw [h]

set_option maxHeartbeats 1000000 in
theorem less_any (l A B : Nat) (hl : 0 < l) (w : World) :
    Calls Try.prog 26 #[.agg #[.int .i64 (qv l A), .int .u64 (rv l A)], .agg #[.int .i64 (qv l B), .int .u64 (rv l B)]] w fun e w' => e = .returned (.bool (ltB A B)) ∧ Below w.heap.size w w' := by
  by_cases h : A < B
  · rw [ltB_yes h]
    rcases (less_iff l A B hl).1 h with h1 | ⟨h1, h2⟩
    · clear h
      go_enter Try.func26, Try.ntmps26
      go_wp2
      go_ret
      exact ⟨rfl, below2 _ _ _⟩
    · have h3 : ¬ qv l A < qv l B := by omega
      have h4 : (qv l A == qv l B) = true := by rw [h1]; simp
      clear h h1
      go_enter Try.func26, Try.ntmps26
      go_wp2
      go_ret
      exact ⟨by simp, below2 _ _ _⟩
  · rw [ltB_no h]
    have h0 := mt (less_iff l A B hl).2 h
    have h3 : ¬ qv l A < qv l B := fun hx => h0 (.inl hx)
    by_cases h1 : qv l A = qv l B
    · have h2 : ¬ rv l A < rv l B := fun hx => h0 (.inr ⟨h1, hx⟩)
      have h4 : (qv l A == qv l B) = true := by rw [h1]; simp
      clear h h1 h0
      go_enter Try.func26, Try.ntmps26
      go_wp2
      go_ret
      exact ⟨by simp, below2 _ _ _⟩
    · have h4 : (qv l A == qv l B) = false := by simp [h1]
      clear h h1 h0
      go_enter Try.func26, Try.ntmps26
      go_wp2
      go_ret
      exact ⟨by simp, below2 _ _ _⟩
end Go.Proofs.Qxb6612665a.W
