import Derived.Test.Qxb6612610aRows
import Derived.ProofKit
import Derived.Deep.Strs
namespace Go.Proofs.Qxb6612610a.W
open Go.ChangeShapes Go.WideShapes Go.ChangeAt

/-- WHAT THE WALK IS TOLD OF A SLICE OF WarnStep THAT CAME IN: it has no element; or it leads to a row of cells, four an element. -/
def IsSteps4 (w : World) (a : Option Addr) (len : Nat) : Prop :=
  len = 0 ∨ ∃ (b off : Nat) (ln : Nat → Int) (col : Nat → ByteArray) (he sec : Nat → Bool), a = some ⟨b, off, none⟩ ∧ len ≤ maxLen ∧ (∀ i, i < len → (col i).size ≤ maxLen) ∧
    (∀ i, i < len → w.cell? ⟨b, off + i * 4, none⟩ = some (.int .i64 (ln i))) ∧
    (∀ i, i < len → w.cell? ⟨b, off + i * 4 + 1, none⟩ = some (.string (col i))) ∧
    (∀ i, i < len → w.cell? ⟨b, off + i * 4 + 2, none⟩ = some (.bool (he i))) ∧
    (∀ i, i < len → w.cell? ⟨b, off + i * 4 + 3, none⟩ = some (.bool (sec i)))

theorem cells28 : Try.prog.cellsOf 28 = 4 := by kernel_rfl
theorem cells3 : Try.prog.cellsOf 3 = 1 := by kernel_rfl
theorem cells9 : Try.prog.cellsOf 9 = 1 := by kernel_rfl
theorem cells4 : Try.prog.cellsOf 4 = 1 := by kernel_rfl

theorem open_steps4 {H : Type} {enc : TypeId × Value → H} {W : World} {sp : Nat → Bool} {held : Bool} {a : Option Addr} {len cap fuel : Nat} {x : DataW H × List MemPlace}
    (hf : DataW.trod enc Try.prog W 0 sp held fuel 22 [.slice a len cap] = some x) : IsSteps4 W a len := by
  rcases Go.Deep.open_slice Try.underlying22 hf with ⟨hcs, _⟩ | ⟨a', len', cap', m, n, D, Pl, hcs, _, hl, hm, hmm, _, hx⟩
  · injection hcs with hcs; injection hcs with _ h _
    exact .inl h
  · injection hcs with hcs; injection hcs with h1 h2 h3
    subst h1 h2 h3
    have hlm : len ≤ m := by rw [hmm]; split <;> omega
    by_cases h0 : len = 0
    · exact .inl h0
    have each : ∀ i, i < len → ∃ q : Int × ByteArray × Bool × Bool, W.cell? (a'.add (i * 4)) = some (.int .i64 q.1) ∧ W.cell? (a'.add (i * 4 + 1)) = some (.string q.2.1) ∧ W.cell? (a'.add (i * 4 + 2)) = some (.bool q.2.2.1) ∧ W.cell? (a'.add (i * 4 + 3)) = some (.bool q.2.2.2) ∧ q.2.1.size ≤ maxLen := by
      intro i hi
      obtain ⟨cs', h1, h2⟩ := hx i (by omega)
      rw [cells28] at h1
      obtain ⟨_, hlen, hcell⟩ := World.cells?_some h1
      obtain ⟨xs, k, _, _, _, hxl, hg⟩ := DataW.trod_struct Try.underlying28 h2
      have g0 : DataW.trod enc Try.prog W 0 sp held k 3 ((cs'.drop 0).take (Try.prog.cellsOf 3)) = xs[0]? := hg 0 _ rfl
      have g1 : DataW.trod enc Try.prog W 0 sp held k 9 ((cs'.drop 1).take (Try.prog.cellsOf 9)) = xs[1]? := hg 1 _ rfl
      have g2 : DataW.trod enc Try.prog W 0 sp held k 4 ((cs'.drop 2).take (Try.prog.cellsOf 4)) = xs[2]? := hg 2 _ rfl
      have g3 : DataW.trod enc Try.prog W 0 sp held k 4 ((cs'.drop 3).take (Try.prog.cellsOf 4)) = xs[3]? := hg 3 _ rfl
      match xs, hxl, cs', hlen with
      | [y0, y1, y2, y3], _, [v0, v1, v2, v3], _ =>
        rw [cells3] at g0
        rw [cells9] at g1
        rw [cells4] at g2 g3
        obtain ⟨z, e0, _, _⟩ := DataW.trod_int Try.underlying3 g0
        obtain ⟨s, e1, _, hs⟩ := DataW.trod_string Try.underlying9 g1
        obtain ⟨t, e2, _⟩ := DataW.trod_bool Try.underlying4 g2
        obtain ⟨t3, e3, _⟩ := DataW.trod_bool Try.underlying4 g3
        simp at e0 e1 e2 e3
        subst e0 e1 e2 e3
        have k0 := hcell 0 (by omega)
        have k1 := hcell 1 (by omega)
        have k2 := hcell 2 (by omega)
        have k3 := hcell 3 (by omega)
        rw [Go.Deep.add_add] at k0 k1 k2 k3
        exact ⟨(z, s, t, t3), by simpa using k0, by simpa using k1, by simpa using k2, by simpa using k3, hs⟩
    obtain ⟨q, hq⟩ := Go.Deep.choose_lt each
    obtain ⟨b, off, spot⟩ := a'
    have hspot : spot = none := by simpa [Addr.add] using World.cell?_spot (hq 0 (by omega)).1
    subst hspot
    have ea : ∀ j, (⟨b, off, none⟩ : Addr).add j = ⟨b, off + j, none⟩ := fun j => add_plain b off j
    simp only [ea] at hq
    refine .inr ⟨b, off, fun i => (q i).1, fun i => (q i).2.1, fun i => (q i).2.2.1, fun i => (q i).2.2.2, rfl, by omega, fun i hi => (hq i hi).2.2.2.2, fun i hi => (hq i hi).1, fun i hi => ?_, fun i hi => ?_, fun i hi => ?_⟩
    · have := (hq i hi).2.1; rwa [← Nat.add_assoc] at this
    · have := (hq i hi).2.2.1; rwa [← Nat.add_assoc] at this
    · have := (hq i hi).2.2.2.1; rwa [← Nat.add_assoc] at this
end Go.Proofs.Qxb6612610a.W
