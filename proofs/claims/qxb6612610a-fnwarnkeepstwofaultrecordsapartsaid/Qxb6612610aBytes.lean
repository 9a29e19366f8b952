import Derived.Test.Qxb6612610aRec
namespace Go.Proofs.Qxb6612610a.W
open Go.RowKit

/-- the ending says some bool; 'true' says that every column is short -/
def Fits (col : Nat → ByteArray) (len : Nat) (e : Ending) : Prop := ∃ z, e = .returned (.bool z) ∧ (z = true → ∀ i, i < len → (col i).size ≤ 1048576)
theorem fits_no (col : Nat → ByteArray) (len : Nat) : Fits col len (.returned (.bool false)) := ⟨false, rfl, fun h => by cases h⟩
theorem fits_yes {col : Nat → ByteArray} {len : Nat} (h : ∀ i, i < len → (col i).size ≤ 1048576) : Fits col len (.returned (.bool true)) := ⟨true, rfl, fun _ => h⟩
def Short (col : Nat → ByteArray) (k : Nat) : Prop := ∀ i, i < k → (col i).size ≤ 1048576
theorem short_succ {col : Nat → ByteArray} {k : Nat} (h : Short col k) (hk : (col k).size ≤ 1048576) : Short col (k + 1) := fun i hi => by
  rcases Nat.lt_succ_iff_lt_or_eq.1 hi with h' | rfl
  · exact h i h'
  · exact hk

def SaysBool (e : Ending) : Prop := ∃ z, e = .returned (.bool z)
theorem says (z : Bool) : SaysBool (.returned (.bool z)) := ⟨z, rfl⟩

set_option maxHeartbeats 1000000 in
theorem bytes12 (name : ByteArray) (b off len cap : Nat) (col : Nat → ByteArray) (w : World) (hl : len ≤ 9223372036854775807) (hn : name.size ≤ 9223372036854775807) (hcs : ∀ i, i < len → (col i).size ≤ 9223372036854775807)
    (hc : ∀ i, i < len → w.cell? ⟨b, off + i * 3 + 1, none⟩ = some (.string (col i))) :
    Calls Try.prog 12 #[.string name, .slice (some ⟨b, off, none⟩) len cap] w fun e w' => Fits col len e ∧ w = w' := by
  have HC : Hid (∀ i, i < len → w.cell? ⟨b, off + i * 3 + 1, none⟩ = some (.string (col i))) := hc
  have HS : Hid (∀ i, i < len → (col i).size ≤ 9223372036854775807) := hcs
  clear hc hcs
  by_cases hsz : name.size + len ≤ 1048576
  · clear hl hn
    go_enter Try.func12, Try.ntmps12
    go_wp2
    go_loop [5, 6] (fun z i => ∃ (k : Nat) (s : Int), k ≤ len ∧ 0 ≤ s ∧ s ≤ 1048576 ∧ i = .int .i64 k ∧ z = .int .i64 s ∧ Hid (Short col k)) (fun _ i => len - (intOf i).toNat)
    case atStart => exact ⟨0, _, by omega, by omega, by omega, rfl, rfl, fun i hi => by omega⟩
    case round =>
      obtain ⟨k, s, hk, h0, h1, rfl, rfl, HK⟩ := hrel
      by_cases hlt : k < len
      · have g := HC.out k hlt
        have gs := HS.out k hlt
        have i1 : (k : Int) < (len : Int) := by omega
        by_cases hbig : (col k).size ≤ 1048576
        · by_cases hs2 : s + (col k).size ≤ 1048576
          · go_wp2
            go_round
            case rel => exact ⟨k + 1, s + (col k).size, by omega, by omega, by omega, by go_num, rfl, short_succ HK.out hbig⟩
            case measure => simp [intOf]; omega
          · go_wp2
            go_ret
            exact ⟨fits_no _ _, rfl⟩
        · go_wp2
          go_ret
          exact ⟨fits_no _ _, rfl⟩
      · go_wp2
        go_ret
        exact ⟨fits_yes (fun i hi => HK.out i (by omega)), rfl⟩
  · go_enter Try.func12, Try.ntmps12
    go_wp2
    all_goals go_ret
    all_goals exact ⟨fits_no _ _, rfl⟩

set_option maxHeartbeats 1000000 in
theorem big13 (b off len cap : Nat) (col : Nat → ByteArray) (x : Int) (w : World) (hx : 0 ≤ x) (hx2 : x ≤ 1048576) (hl : len ≤ 32768) (hcs : Short col len)
    (hc : ∀ i, i < len → w.cell? ⟨b, off + i * 3 + 1, none⟩ = some (.string (col i))) :
    Calls Try.prog 13 #[.slice (some ⟨b, off, none⟩) len cap, .int .i64 x] w fun e w' => SaysBool e ∧ w = w' := by
  have HC : Hid (∀ i, i < len → w.cell? ⟨b, off + i * 3 + 1, none⟩ = some (.string (col i))) := hc
  clear hc
  go_enter Try.func13, Try.ntmps13
  go_wp2
  go_loop [5, 6] (fun z i => ∃ (k : Nat) (s : Int), k ≤ len ∧ 0 ≤ s ∧ s ≤ 1048576 ∧ i = .int .i64 k ∧ z = .int .i64 s) (fun _ i => len - (intOf i).toNat)
  case atStart => exact ⟨0, _, by omega, by omega, by omega, rfl, rfl⟩
  case round =>
    obtain ⟨k, s, hk, h0, h1, rfl, rfl⟩ := hrel
    by_cases hlt : k < len
    · have g := HC.out k hlt
      have gs := hcs k hlt
      have i1 : (k : Int) < (len : Int) := by omega
      by_cases hs2 : s + (32 + (col k).size) ≤ 1048576
      · go_wp2
        go_round
        case rel => exact ⟨k + 1, s + (32 + (col k).size), by omega, by omega, by omega, by go_num, rfl⟩
        case measure => simp [intOf]; omega
      · go_wp2
        go_ret
        exact ⟨says _, rfl⟩
    · go_wp2
      go_ret
      exact ⟨says _, rfl⟩
end Go.Proofs.Qxb6612610a.W
