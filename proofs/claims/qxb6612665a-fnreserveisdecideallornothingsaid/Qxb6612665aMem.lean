import Derived.Test.Qxb6612665aWithin
namespace Go.Proofs.Qxb6612665a.W
open Go.RowKit
set_option linter.unusedVariables false

/-- OF WHAT WAS THERE ONLY THE n CELLS FROM d ON IN BLOCK db MAY HAVE TURNED. -/
structure Wr (db d n : Nat) (w w' : World) : Prop where
  os : w'.os = w.os
  tape : w'.tape = w.tape
  output : w'.output = w.output
  size : w.heap.size ≤ w'.heap.size
  block : ∀ k, k < w.heap.size → k ≠ db → w'.heap[k]? = w.heap[k]?
  rest : ∀ o, (o < d ∨ d + n ≤ o) → w'.cell? ⟨db, o, none⟩ = w.cell? ⟨db, o, none⟩
  frozen : ∀ o, w'.frozen? ⟨db, o, none⟩ = w.frozen? ⟨db, o, none⟩
  there : ∀ o, (w.cell? ⟨db, o, none⟩).isSome = true → (w'.cell? ⟨db, o, none⟩).isSome = true
  lt : db < w.heap.size

theorem Wr.refl (db d n : Nat) (w : World) (h : db < w.heap.size) : Wr db d n w w := ⟨rfl, rfl, rfl, Nat.le_refl _, fun _ _ _ => rfl, fun _ _ => rfl, fun _ => rfl, fun _ h => h, h⟩
theorem Wr.drew {db d n : Nat} {w W : World} (h : Wr db d n w W) : Wr db d n w W.drew := ⟨h.os, h.tape, h.output, h.size, h.block, h.rest, h.frozen, h.there, h.lt⟩
theorem Wr.call {db d n : Nat} {w W W' : World} (h : Wr db d n w W) (hb : Below W.heap.size W W') : Wr db d n w W' := by
  have hs := h.size
  have hl := h.lt
  refine ⟨hb.os.trans h.os, hb.tape.trans h.tape, hb.output.trans h.output, Nat.le_trans h.size hb.size, fun k hk hn => (hb.block k (by omega)).trans (h.block k hk hn), fun o ho => ?_, fun o => ?_, fun o ho => ?_, h.lt⟩
  · rw [hb.cell (p := ⟨db, o, none⟩) (by show db < _; omega)]; exact h.rest o ho
  · rw [hb.frozen (p := ⟨db, o, none⟩) (by show db < _; omega)]; exact h.frozen o
  · rw [hb.cell (p := ⟨db, o, none⟩) (by show db < _; omega)]; exact h.there o ho
theorem Wr.alloc {db d n : Nat} {w W : World} (h : Wr db d n w W) (ob : Obj) : Wr db d n w (W.alloc ob) := h.call (below1 W ob)
/-- a store into a block of one's own -/
theorem Wr.own {db d n : Nat} {w W : World} (h : Wr db d n w W) {p : Addr} (hp : w.heap.size ≤ p.block) (v : Value) : Wr db d n w (W.setCell p v) := by
  have hl := h.lt
  have k := fun (b : Nat) (hne : b ≠ p.block) => heap_setCell_other W p b v hne
  refine ⟨h.os, h.tape, h.output, by simpa [World.setCell] using h.size, fun i hi hn => (k i (by omega)).trans (h.block i hi hn), fun o ho => ?_, fun o => ?_, fun o ho => ?_, h.lt⟩
  · rw [World.cell?_of_block (w := W) (a := ⟨db, o, none⟩) (k db (by omega))]; exact h.rest o ho
  · rw [World.frozen?_setCell]; exact h.frozen o
  · rw [World.cell?_of_block (w := W) (a := ⟨db, o, none⟩) (k db (by omega))]; exact h.there o ho
/-- a store into the cells -/
theorem Wr.put {db d n : Nat} {w W : World} (h : Wr db d n w W) {o : Nat} (ho : d ≤ o) (ho2 : o < d + n) (v : Value) : Wr db d n w (W.setCell ⟨db, o, none⟩ v) := by
  have hl := h.lt
  have k := fun (b : Nat) (hne : b ≠ db) => heap_setCell_other W ⟨db, o, none⟩ b v hne
  refine ⟨h.os, h.tape, h.output, by simpa [World.setCell] using h.size, fun i hi hn => (k i hn).trans (h.block i hi hn), fun o' ho' => ?_, fun o' => ?_, fun o' ho' => ?_, h.lt⟩
  · rw [World.cell?_setCell_other _ _ _ _ (by intro h; injection h; omega)]; exact h.rest o' ho'
  · rw [World.frozen?_setCell]; exact h.frozen o'
  · by_cases e : o' = o
    · subst e
      rw [World.cell?_setCell_same' _ _ _ (h.there _ ho')]; rfl
    · rw [World.cell?_setCell_other _ _ _ _ (by intro h; injection h; omega)]; exact h.there o' ho'
theorem Wr.cell {db d n : Nat} {w W : World} (h : Wr db d n w W) {b : Nat} (hb : b < w.heap.size) (hn : b ≠ db) (o : Nat) : W.cell? ⟨b, o, none⟩ = w.cell? ⟨b, o, none⟩ := World.cell?_of_block (w := w) (h.block b hb hn)
theorem Wr.below {db d n B : Nat} {w W : World} (h : Wr db d n w W) (hB : B ≤ db) : Below B w W := ⟨h.os, h.tape, h.output, h.size, fun k hk => h.block k (by have := h.lt; omega) (by omega)⟩
theorem Wr.gc {db d n g l p b : Nat} {w W : World} (h : Wr db d n w W) (hg : GC g l p b w) (hn : g ≠ db) : GC g l p b W := by
  unfold GC; rw [h.block g hg.lt hn]; exact hg
/-- A DECISION's PLACE -/
def Ready (db d : Nat) (w : World) : Prop := ∀ j, j < 5 → (w.cell? ⟨db, d + j, none⟩).isSome = true ∧ w.frozen? ⟨db, d + j, none⟩ = false
theorem Ready.lt {db d : Nat} {w : World} (h : Ready db d w) : db < w.heap.size := by
  have h0 := (h 0 (by omega)).1
  cases hc : w.cell? ⟨db, d + 0, none⟩ with
  | none => rw [hc] at h0; simp at h0
  | some v => exact World.block_lt_of_cell? w _ hc
theorem Wr.ready {db d : Nat} {w W : World} (h : Wr db d 5 w W) (hr : Ready db d w) :
    (∃ v0 v1 v2 v3 v4, W.cell? ⟨db, d, none⟩ = some v0 ∧ W.cell? ⟨db, d + 1, none⟩ = some v1 ∧ W.cell? ⟨db, d + 2, none⟩ = some v2 ∧ W.cell? ⟨db, d + 3, none⟩ = some v3 ∧ W.cell? ⟨db, d + 4, none⟩ = some v4) ∧
    W.frozen? ⟨db, d, none⟩ = false ∧ W.frozen? ⟨db, d + 1, none⟩ = false ∧ W.frozen? ⟨db, d + 2, none⟩ = false ∧ W.frozen? ⟨db, d + 3, none⟩ = false ∧ W.frozen? ⟨db, d + 4, none⟩ = false := by
  have k := fun (j : Nat) (hj : j < 5) => Option.isSome_iff_exists.mp (h.there (d + j) (hr j hj).1)
  obtain ⟨v0, e0⟩ := k 0 (by omega)
  obtain ⟨v1, e1⟩ := k 1 (by omega)
  obtain ⟨v2, e2⟩ := k 2 (by omega)
  obtain ⟨v3, e3⟩ := k 3 (by omega)
  obtain ⟨v4, e4⟩ := k 4 (by omega)
  have z := fun (j : Nat) (hj : j < 5) => (h.frozen (d + j)).trans (hr j hj).2
  exact ⟨⟨v0, v1, v2, v3, v4, e0, e1, e2, e3, e4⟩, z 0 (by omega), z 1 (by omega), z 2 (by omega), z 3 (by omega), z 4 (by omega)⟩
/-- A DECISION IN MEMORY -/
structure DC (db d : Nat) (al : Bool) (lim rem retry reset : Int) (w : World) : Prop where
  c0 : w.cell? ⟨db, d, none⟩ = some (.bool al)
  c1 : w.cell? ⟨db, d + 1, none⟩ = some (.int .i64 lim)
  c2 : w.cell? ⟨db, d + 2, none⟩ = some (.int .i64 rem)
  c3 : w.cell? ⟨db, d + 3, none⟩ = some (.int .i64 retry)
  c4 : w.cell? ⟨db, d + 4, none⟩ = some (.int .i64 reset)
theorem put5 {db d : Nat} {W : World} {v0 v1 v2 v3 v4 : Value} (al : Bool) (lim rem retry reset : Int) (e0 : W.cell? ⟨db, d, none⟩ = some v0) (e1 : W.cell? ⟨db, d + 1, none⟩ = some v1) (e2 : W.cell? ⟨db, d + 2, none⟩ = some v2) (e3 : W.cell? ⟨db, d + 3, none⟩ = some v3) (e4 : W.cell? ⟨db, d + 4, none⟩ = some v4) :
    DC db d al lim rem retry reset (((((W.setCell ⟨db, d, none⟩ (.bool al)).setCell ⟨db, d + 1, none⟩ (.int .i64 lim)).setCell ⟨db, d + 2, none⟩ (.int .i64 rem)).setCell ⟨db, d + 3, none⟩ (.int .i64 retry)).setCell ⟨db, d + 4, none⟩ (.int .i64 reset)) := by
  have ne : ∀ (i j : Nat), i ≠ j → (⟨db, i, none⟩ : Addr) ≠ ⟨db, j, none⟩ := fun i j h h' => by injection h'; omega
  have o := fun (X : World) (i j : Nat) (v : Value) (h : i ≠ j) => World.cell?_setCell_other X ⟨db, i, none⟩ ⟨db, j, none⟩ v (ne i j h)
  refine ⟨?_, ?_, ?_, ?_, ?_⟩
  · rw [o _ _ _ _ (by omega), o _ _ _ _ (by omega), o _ _ _ _ (by omega), o _ _ _ _ (by omega)]
    exact World.cell?_setCell_same _ _ _ e0
  · rw [o _ _ _ _ (by omega), o _ _ _ _ (by omega), o _ _ _ _ (by omega)]
    exact World.cell?_setCell_same _ _ _ (by rw [o _ _ _ _ (by omega)]; exact e1)
  · rw [o _ _ _ _ (by omega), o _ _ _ _ (by omega)]
    exact World.cell?_setCell_same _ _ _ (by rw [o _ _ _ _ (by omega), o _ _ _ _ (by omega)]; exact e2)
  · rw [o _ _ _ _ (by omega)]
    exact World.cell?_setCell_same _ _ _ (by rw [o _ _ _ _ (by omega), o _ _ _ _ (by omega), o _ _ _ _ (by omega)]; exact e3)
  · exact World.cell?_setCell_same _ _ _ (by rw [o _ _ _ _ (by omega), o _ _ _ _ (by omega), o _ _ _ _ (by omega), o _ _ _ _ (by omega)]; exact e4)
theorem DC.put3 {db d : Nat} {W : World} {al : Bool} {lim rem retry reset : Int} (h : DC db d al lim rem retry reset W) (x : Int) : DC db d al lim rem x reset (W.setCell ⟨db, d + 3, none⟩ (.int .i64 x)) := by
  have ne : ∀ (i j : Nat), i ≠ j → (⟨db, i, none⟩ : Addr) ≠ ⟨db, j, none⟩ := fun i j h h' => by injection h'; omega
  have o := fun (X : World) (i j : Nat) (v : Value) (h : i ≠ j) => World.cell?_setCell_other X ⟨db, i, none⟩ ⟨db, j, none⟩ v (ne i j h)
  exact ⟨by rw [o _ _ _ _ (by omega)]; exact h.c0, by rw [o _ _ _ _ (by omega)]; exact h.c1, by rw [o _ _ _ _ (by omega)]; exact h.c2, World.cell?_setCell_same _ _ _ h.c3, by rw [o _ _ _ _ (by omega)]; exact h.c4⟩
theorem DC.put4 {db d : Nat} {W : World} {al : Bool} {lim rem retry reset : Int} (h : DC db d al lim rem retry reset W) (x : Int) : DC db d al lim rem retry x (W.setCell ⟨db, d + 4, none⟩ (.int .i64 x)) := by
  have ne : ∀ (i j : Nat), i ≠ j → (⟨db, i, none⟩ : Addr) ≠ ⟨db, j, none⟩ := fun i j h h' => by injection h'; omega
  have o := fun (X : World) (i j : Nat) (v : Value) (h : i ≠ j) => World.cell?_setCell_other X ⟨db, i, none⟩ ⟨db, j, none⟩ v (ne i j h)
  exact ⟨by rw [o _ _ _ _ (by omega)]; exact h.c0, by rw [o _ _ _ _ (by omega)]; exact h.c1, by rw [o _ _ _ _ (by omega)]; exact h.c2, by rw [o _ _ _ _ (by omega)]; exact h.c3, World.cell?_setCell_same _ _ _ h.c4⟩
theorem DC.put2 {db d : Nat} {W : World} {al : Bool} {lim rem retry reset : Int} (h : DC db d al lim rem retry reset W) (x : Int) : DC db d al lim x retry reset (W.setCell ⟨db, d + 2, none⟩ (.int .i64 x)) := by
  have ne : ∀ (i j : Nat), i ≠ j → (⟨db, i, none⟩ : Addr) ≠ ⟨db, j, none⟩ := fun i j h h' => by injection h'; omega
  have o := fun (X : World) (i j : Nat) (v : Value) (h : i ≠ j) => World.cell?_setCell_other X ⟨db, i, none⟩ ⟨db, j, none⟩ v (ne i j h)
  exact ⟨by rw [o _ _ _ _ (by omega)]; exact h.c0, by rw [o _ _ _ _ (by omega)]; exact h.c1, World.cell?_setCell_same _ _ _ h.c2, by rw [o _ _ _ _ (by omega)]; exact h.c3, by rw [o _ _ _ _ (by omega)]; exact h.c4⟩
theorem DC.lt {db d : Nat} {al : Bool} {lim rem retry reset : Int} {w : World} (h : DC db d al lim rem retry reset w) : db < w.heap.size := World.block_lt_of_cell? w _ h.c0
theorem DC.same {db d : Nat} {al : Bool} {lim rem retry reset : Int} {w W : World} (h : DC db d al lim rem retry reset w) (hc : ∀ o, d ≤ o → o < d + 5 → W.cell? ⟨db, o, none⟩ = w.cell? ⟨db, o, none⟩) : DC db d al lim rem retry reset W :=
  ⟨by rw [hc d (by omega) (by omega)]; exact h.c0, by rw [hc _ (by omega) (by omega)]; exact h.c1, by rw [hc _ (by omega) (by omega)]; exact h.c2, by rw [hc _ (by omega) (by omega)]; exact h.c3, by rw [hc _ (by omega) (by omega)]; exact h.c4⟩
theorem DC.call {db d : Nat} {al : Bool} {lim rem retry reset : Int} {w W : World} (h : DC db d al lim rem retry reset w) (hb : Below w.heap.size w W) : DC db d al lim rem retry reset W := h.same fun o _ _ => hb.cell (p := ⟨db, o, none⟩) h.lt
theorem DC.drew {db d : Nat} {al : Bool} {lim rem retry reset : Int} {w : World} (h : DC db d al lim rem retry reset w) : DC db d al lim rem retry reset w.drew := ⟨h.c0, h.c1, h.c2, h.c3, h.c4⟩
theorem DC.own {db d : Nat} {al : Bool} {lim rem retry reset : Int} {w : World} (h : DC db d al lim rem retry reset w) {q : Addr} (hq : q.block ≠ db) (v : Value) : DC db d al lim rem retry reset (w.setCell q v) :=
  h.same fun o _ _ => World.cell?_setCell_other _ _ _ _ (by intro e; rw [e] at hq; exact hq rfl)

/-- THE LISTED CELLS, AND R -/
@[reducible] def Hold (R : World → Prop) : List (Nat × Nat × Value) → World → Prop
  | [], W => R W
  | x :: L, W => W.cell? ⟨x.1, x.2.1, none⟩ = some x.2.2 ∧ Hold R L W
theorem Hold.map {R : World → Prop} {W W' : World} (hR : R W → R W') : ∀ {L : List (Nat × Nat × Value)} (hc : ∀ x ∈ L, W.cell? ⟨x.1, x.2.1, none⟩ = some x.2.2 → W'.cell? ⟨x.1, x.2.1, none⟩ = some x.2.2), Hold R L W → Hold R L W'
  | [], _, h => hR h
  | x :: L, hc, h => ⟨hc x (by simp) h.1, Hold.map hR (fun y hy => hc y (by simp [hy])) h.2⟩
/-- a block of one's own -/
def Own (rb : Nat) (W : World) : Prop := rb < W.heap.size ∧ ∀ o, W.frozen? ⟨rb, o, none⟩ = false
theorem Own.drew {rb : Nat} {W : World} (h : Own rb W) : Own rb W.drew := h
theorem Own.call {rb : Nat} {W W' : World} (h : Own rb W) (hb : Below W.heap.size W W') : Own rb W' :=
  ⟨Nat.lt_of_lt_of_le h.1 hb.size, fun o => by rw [hb.frozen (p := ⟨rb, o, none⟩) h.1]; exact h.2 o⟩
theorem Own.set {rb : Nat} {W : World} (h : Own rb W) (q : Addr) (v : Value) : Own rb (W.setCell q v) := ⟨by simpa [World.setCell] using h.1, fun o => by rw [World.frozen?_setCell]; exact h.2 o⟩
theorem Own.new (w : World) (cs : Array Value) (t : TypeId) : Own w.heap.size (w.alloc (.cells cs t)) := ⟨by simp, fun o => World.frozen?_alloc_new w cs t o⟩
/-- WHAT IS HELD WHILE A DECISION IS WRITTEN -/
@[reducible] def HW (db d rb : Nat) (w : World) (L : List (Nat × Nat × Value)) (W : World) : Prop := Hold (fun W => Wr db d 5 w W ∧ Own rb W) L W
theorem HW.drew {db d rb : Nat} {w W : World} {L : List (Nat × Nat × Value)} (h : HW db d rb w L W) : HW db d rb w L W.drew := Hold.map (R := fun W => Wr db d 5 w W ∧ Own rb W) (W := W) (W' := W.drew) (fun h => ⟨h.1.drew, h.2⟩) (fun x _ h => h) h
theorem HW.call {db d rb : Nat} {w W W' : World} {L : List (Nat × Nat × Value)} (h : HW db d rb w L W) (hb : Below W.heap.size W W') : HW db d rb w L W' :=
  Hold.map (R := fun W => Wr db d 5 w W ∧ Own rb W) (fun h => ⟨h.1.call hb, h.2.call hb⟩) (fun x _ h => by rw [hb.cell (World.block_lt_of_cell? W _ h)]; exact h) h
theorem HW.alloc {db d rb : Nat} {w W : World} {L : List (Nat × Nat × Value)} (h : HW db d rb w L W) (ob : Obj) : HW db d rb w L (W.alloc ob) := h.call (below1 W ob)
theorem HW.put {db d o rb : Nat} {w W : World} {L : List (Nat × Nat × Value)} (h : HW db d rb w L W) (hL : ∀ x ∈ L, x.1 ≠ db) (ho : d ≤ o) (ho2 : o < d + 5) (v : Value) : HW db d rb w L (W.setCell ⟨db, o, none⟩ v) :=
  Hold.map (R := fun W => Wr db d 5 w W ∧ Own rb W) (fun h => ⟨h.1.put ho ho2 v, h.2.set _ _⟩) (fun x hx h => by rw [World.cell?_setCell_other _ _ _ _ (by have := hL x hx; intro h; injection h; omega)]; exact h) h
/-- a store into a block of one's own -/
theorem HW.own {db d rb : Nat} {w W : World} {L : List (Nat × Nat × Value)} (h : HW db d rb w L W) {q : Addr} (hL : ∀ x ∈ L, x.1 ≠ q.block) (hq : w.heap.size ≤ q.block) (v : Value) : HW db d rb w L (W.setCell q v) :=
  Hold.map (R := fun W => Wr db d 5 w W ∧ Own rb W) (fun h => ⟨h.1.own hq v, h.2.set _ _⟩) (fun x hx h => by rw [World.cell?_setCell_other _ _ _ _ (by intro e; exact hL x hx (by rw [e]))]; exact h) h
theorem HW.own2 {db d rb : Nat} {w W : World} {L : List (Nat × Nat × Value)} (h : HW db d rb w L W) (rb' : Nat) (hL : ∀ x ∈ L, x.1 ≠ rb') (hq : w.heap.size ≤ rb') (u v : Value) : HW db d rb w L ((W.setCell ⟨rb', 0, none⟩ u).setCell ⟨rb', 1, none⟩ v) :=
  (h.own (q := ⟨rb', 0, none⟩) hL hq u).own (q := ⟨rb', 1, none⟩) hL hq v
/-- a decision is stored -/
theorem HW.put5 {db d rb : Nat} {w W : World} {L : List (Nat × Nat × Value)} (h : HW db d rb w L W) (hL : ∀ x ∈ L, x.1 ≠ db) (v0 v1 v2 v3 v4 : Value) :
    HW db d rb w L (((((W.setCell ⟨db, d, none⟩ v0).setCell ⟨db, d + 1, none⟩ v1).setCell ⟨db, d + 2, none⟩ v2).setCell ⟨db, d + 3, none⟩ v3).setCell ⟨db, d + 4, none⟩ v4) :=
  ((((h.put hL (Nat.le_refl _) (by omega) v0).put hL (by omega) (by omega) v1).put hL (by omega) (by omega) v2).put hL (by omega) (by omega) v3).put hL (by omega) (by omega) v4
theorem Hold.base {R : World → Prop} {W : World} : ∀ {L : List (Nat × Nat × Value)}, Hold R L W → R W
  | [], h => h
  | _ :: _, h => Hold.base h.2
theorem HW.wr {db d rb : Nat} {w W : World} {L : List (Nat × Nat × Value)} (h : HW db d rb w L W) : Wr db d 5 w W := (Hold.base (R := fun W => Wr db d 5 w W ∧ Own rb W) h).1
theorem HW.mine {db d rb : Nat} {w W : World} {L : List (Nat × Nat × Value)} (h : HW db d rb w L W) : Own rb W := (Hold.base (R := fun W => Wr db d 5 w W ∧ Own rb W) h).2
end Go.Proofs.Qxb6612665a.W
