import Derived.Test.Qxb6612665aDecide
namespace Go.Proofs.Qxb6612665a.W
open Go.RowKit
set_option linter.unusedVariables false

/-- OF WHAT WAS THERE ONLY THE BLOCKS db AND nb MAY HAVE TURNED -/
structure WW (db nb : Nat) (w w' : World) : Prop where
  os : w'.os = w.os
  tape : w'.tape = w.tape
  output : w'.output = w.output
  size : w.heap.size ≤ w'.heap.size
  block : ∀ k, k < w.heap.size → k ≠ db → k ≠ nb → w'.heap[k]? = w.heap[k]?
  fd : ∀ o, w'.frozen? ⟨db, o, none⟩ = w.frozen? ⟨db, o, none⟩
  fn : ∀ o, w'.frozen? ⟨nb, o, none⟩ = w.frozen? ⟨nb, o, none⟩
  td : ∀ o, (w.cell? ⟨db, o, none⟩).isSome = true → (w'.cell? ⟨db, o, none⟩).isSome = true
  tn : ∀ o, (w.cell? ⟨nb, o, none⟩).isSome = true → (w'.cell? ⟨nb, o, none⟩).isSome = true
  ld : db < w.heap.size
  ln : nb < w.heap.size
  ne : db ≠ nb
theorem WW.refl {db nb : Nat} {w : World} (hd : db < w.heap.size) (hn : nb < w.heap.size) (ne : db ≠ nb) : WW db nb w w := ⟨rfl, rfl, rfl, Nat.le_refl _, fun _ _ _ _ => rfl, fun _ => rfl, fun _ => rfl, fun _ h => h, fun _ h => h, hd, hn, ne⟩
theorem WW.drew {db nb : Nat} {w W : World} (h : WW db nb w W) : WW db nb w W.drew := ⟨h.os, h.tape, h.output, h.size, h.block, h.fd, h.fn, h.td, h.tn, h.ld, h.ln, h.ne⟩
theorem WW.call {db nb : Nat} {w W W' : World} (h : WW db nb w W) (hb : Below W.heap.size W W') : WW db nb w W' := by
  have hs := h.size
  have h1 := h.ld
  have h2 := h.ln
  refine ⟨hb.os.trans h.os, hb.tape.trans h.tape, hb.output.trans h.output, Nat.le_trans h.size hb.size, fun k hk hn hm => (hb.block k (by omega)).trans (h.block k hk hn hm), fun o => ?_, fun o => ?_, fun o ho => ?_, fun o ho => ?_, h.ld, h.ln, h.ne⟩
  · rw [hb.frozen (p := ⟨db, o, none⟩) (by show db < _; omega)]; exact h.fd o
  · rw [hb.frozen (p := ⟨nb, o, none⟩) (by show nb < _; omega)]; exact h.fn o
  · rw [hb.cell (p := ⟨db, o, none⟩) (by show db < _; omega)]; exact h.td o ho
  · rw [hb.cell (p := ⟨nb, o, none⟩) (by show nb < _; omega)]; exact h.tn o ho
theorem WW.wr {db nb d n : Nat} {w W W' : World} (h : WW db nb w W) (hw : Wr db d n W W') : WW db nb w W' := by
  have hs := h.size
  have h1 := h.ld
  have h2 := h.ln
  have hb := hw.block nb (by omega) h.ne.symm
  refine ⟨hw.os.trans h.os, hw.tape.trans h.tape, hw.output.trans h.output, Nat.le_trans h.size hw.size, fun k hk hn hm => (hw.block k (by omega) hn).trans (h.block k hk hn hm), fun o => (hw.frozen o).trans (h.fd o), fun o => ?_, fun o ho => hw.there o (h.td o ho), fun o ho => ?_, h.ld, h.ln, h.ne⟩
  · rw [World.frozen?_of_block (w := W) (a := ⟨nb, o, none⟩) hb]; exact h.fn o
  · rw [World.cell?_of_block (w := W) (a := ⟨nb, o, none⟩) hb]; exact h.tn o ho
theorem WW.put {db nb o : Nat} {w W : World} (h : WW db nb w W) (v : Value) : WW db nb w (W.setCell ⟨nb, o, none⟩ v) := by
  have h1 := h.ne
  have k := fun (b : Nat) (hne : b ≠ nb) => heap_setCell_other W ⟨nb, o, none⟩ b v hne
  refine ⟨h.os, h.tape, h.output, by simpa [World.setCell] using h.size, fun i hi hn hm => (k i hm).trans (h.block i hi hn hm), fun o' => ?_, fun o' => ?_, fun o' ho' => ?_, fun o' ho' => ?_, h.ld, h.ln, h.ne⟩
  · rw [World.frozen?_setCell]; exact h.fd o'
  · rw [World.frozen?_setCell]; exact h.fn o'
  · rw [World.cell?_of_block (w := W) (a := ⟨db, o', none⟩) (k db h1)]; exact h.td o' ho'
  · by_cases e : o' = o
    · subst e
      rw [World.cell?_setCell_same' _ _ _ (h.tn _ ho')]; rfl
    · rw [World.cell?_setCell_other _ _ _ _ (by intro h; injection h; omega)]; exact h.tn o' ho'
theorem WW.cell {db nb : Nat} {w W : World} (h : WW db nb w W) {b : Nat} (hb : b < w.heap.size) (hn : b ≠ db) (hm : b ≠ nb) (o : Nat) : W.cell? ⟨b, o, none⟩ = w.cell? ⟨b, o, none⟩ := World.cell?_of_block (w := w) (h.block b hb hn hm)
theorem WW.ready {db nb d : Nat} {w W : World} (h : WW db nb w W) (hr : Ready db d w) : Ready db d W := fun j hj => ⟨h.td _ (hr j hj).1, (h.fd _).trans (hr j hj).2⟩
/-- A SPAN's PLACE -/
def Ready2 (nb d : Nat) (w : World) : Prop := ∀ j, j < 2 → (w.cell? ⟨nb, d + j, none⟩).isSome = true ∧ w.frozen? ⟨nb, d + j, none⟩ = false
theorem WW.ready2 {db nb d : Nat} {w W : World} (h : WW db nb w W) (hr : Ready2 nb d w) : (∃ v0 v1, W.cell? ⟨nb, d, none⟩ = some v0 ∧ W.cell? ⟨nb, d + 1, none⟩ = some v1) ∧ W.frozen? ⟨nb, d, none⟩ = false ∧ W.frozen? ⟨nb, d + 1, none⟩ = false := by
  have k := fun (j : Nat) (hj : j < 2) => Option.isSome_iff_exists.mp (h.tn (d + j) (hr j hj).1)
  obtain ⟨v0, e0⟩ := k 0 (by omega)
  obtain ⟨v1, e1⟩ := k 1 (by omega)
  have z := fun (j : Nat) (hj : j < 2) => (h.fn (d + j)).trans (hr j hj).2
  exact ⟨⟨v0, v1, e0, e1⟩, z 0 (by omega), z 1 (by omega)⟩
/-- A SPAN IN MEMORY -/
structure NC (nb d : Nat) (q r : Int) (w : World) : Prop where
  c0 : w.cell? ⟨nb, d, none⟩ = some (.int .i64 q)
  c1 : w.cell? ⟨nb, d + 1, none⟩ = some (.int .u64 r)
theorem NC.same {nb d : Nat} {q r : Int} {w W : World} (h : NC nb d q r w) (hc : ∀ o, d ≤ o → o < d + 2 → W.cell? ⟨nb, o, none⟩ = w.cell? ⟨nb, o, none⟩) : NC nb d q r W :=
  ⟨by rw [hc d (by omega) (by omega)]; exact h.c0, by rw [hc _ (by omega) (by omega)]; exact h.c1⟩
theorem put2 {nb d : Nat} {W : World} {v0 v1 : Value} (q r : Int) (e0 : W.cell? ⟨nb, d, none⟩ = some v0) (e1 : W.cell? ⟨nb, d + 1, none⟩ = some v1) :
    NC nb d q r ((W.setCell ⟨nb, d, none⟩ (.int .i64 q)).setCell ⟨nb, d + 1, none⟩ (.int .u64 r)) := by
  have ne : (⟨nb, d, none⟩ : Addr) ≠ ⟨nb, d + 1, none⟩ := fun h' => by injection h'; omega
  refine ⟨?_, World.cell?_setCell_same _ _ _ (by rw [World.cell?_setCell_other _ _ _ _ ne]; exact e1)⟩
  rw [World.cell?_setCell_other _ _ _ _ ne.symm]
  exact World.cell?_setCell_same _ _ _ e0
/-- WHAT RESERVE HOLDS IN A ROUND: the listed cells; all but the two blocks -/
@[reducible] def HV (db nb : Nat) (w : World) (L : List (Nat × Nat × Value)) (W : World) : Prop := Hold (fun W => WW db nb w W) L W
theorem HV.ww {db nb : Nat} {w W : World} {L : List (Nat × Nat × Value)} (h : HV db nb w L W) : WW db nb w W := Hold.base (R := fun W => WW db nb w W) h
theorem HV.drew {db nb : Nat} {w W : World} {L : List (Nat × Nat × Value)} (h : HV db nb w L W) : HV db nb w L W.drew := Hold.map (R := fun W => WW db nb w W) (W := W) (W' := W.drew) (fun h => h.drew) (fun x _ h => h) h
theorem HV.call {db nb : Nat} {w W W' : World} {L : List (Nat × Nat × Value)} (h : HV db nb w L W) (hb : Below W.heap.size W W') : HV db nb w L W' :=
  Hold.map (R := fun W => WW db nb w W) (fun h => h.call hb) (fun x _ h => by rw [hb.cell (World.block_lt_of_cell? W _ h)]; exact h) h
theorem HV.wr {db nb d n : Nat} {w W W' : World} {L : List (Nat × Nat × Value)} (h : HV db nb w L W) (hL : ∀ x ∈ L, x.1 ≠ db) (hw : Wr db d n W W') : HV db nb w L W' :=
  Hold.map (R := fun W => WW db nb w W) (fun h => h.wr hw) (fun x hx h => by rw [hw.cell (World.block_lt_of_cell? W _ h) (hL x hx)]; exact h) h
theorem HV.put2 {db nb o : Nat} {w W : World} {L : List (Nat × Nat × Value)} (h : HV db nb w L W) (hL : ∀ x ∈ L, x.1 ≠ nb) (u v : Value) : HV db nb w L ((W.setCell ⟨nb, o, none⟩ u).setCell ⟨nb, o + 1, none⟩ v) :=
  Hold.map (R := fun W => WW db nb w W) (fun h => (h.put u).put v) (fun x hx h => by
    have := hL x hx
    rw [World.cell?_setCell_other _ _ _ _ (by intro h; injection h; omega), World.cell?_setCell_other _ _ _ _ (by intro h; injection h; omega)]; exact h) h
/-- a turn's cells -/
@[reducible] def LQ (tb t g : Nat) (ns fr late : Int) : List (Nat × Nat × Value) := [(tb, t, .pointer (some ⟨g, 0, none⟩)), (tb, t + 2, .int .i64 ns), (tb, t + 3, .int .u64 fr), (tb, t + 4, .int .u64 late)]
theorem LQ.ne {tb t g db : Nat} {ns fr late : Int} (h : tb ≠ db) : ∀ x ∈ LQ tb t g ns fr late, x.1 ≠ db := by
  intro z hz
  simp only [LQ, List.mem_cons, List.not_mem_nil, or_false] at hz
  rcases hz with rfl | rfl | rfl | rfl <;> exact h
end Go.Proofs.Qxb6612665a.W
