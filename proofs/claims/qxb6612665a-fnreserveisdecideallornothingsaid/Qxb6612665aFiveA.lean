import Derived.Test.Qxb6612665aHold2
namespace Go.Proofs.Qxb6612665a.W
open Go.RowKit
set_option linter.unusedVariables false

/-- k limiters and turns are built: the limiters' pointers in the row at gb, the turns in the row at tb -/
structure BG (D : Dat) (G : Nat → Nat) (n gb tb k : Nat) (w W : World) : Prop where
  bl : BL D G n tb k w W
  own : Own gb W
  there : ∀ o, o < n → (W.cell? ⟨gb, o, none⟩).isSome = true
  ptr : ∀ i, i < k → W.cell? ⟨gb, i, none⟩ = some (.pointer (some ⟨G i, 0, none⟩)) ∧ G i ≠ gb
  old : w.heap.size ≤ gb
  ne : gb ≠ tb
theorem BG.drew {D : Dat} {G : Nat → Nat} {n gb tb k : Nat} {w W : World} (h : BG D G n gb tb k w W) : BG D G n gb tb k w W.drew := ⟨h.bl.drew, h.own, h.there, h.ptr, h.old, h.ne⟩
theorem BG.call {D : Dat} {G : Nat → Nat} {n gb tb k : Nat} {w W W' : World} (h : BG D G n gb tb k w W) (hb : Below W.heap.size W W') : BG D G n gb tb k w W' :=
  ⟨h.bl.call hb, h.own.call hb, fun o ho => by rw [hb.cell (p := ⟨gb, o, none⟩) h.own.1]; exact h.there o ho, fun i hi => ⟨by rw [hb.cell (p := ⟨gb, i, none⟩) h.own.1]; exact (h.ptr i hi).1, (h.ptr i hi).2⟩, h.old, h.ne⟩
/-- the two new rows -/
theorem BG.start {D : Dat} {n : Nat} {w : World} {z1 z5 : Array Value} {t1 t5 : TypeId} {G : Nat → Nat} : BG D G n w.heap.size (w.heap.size + 1) 0 w ((w.alloc (.cells (madeCells z1 n) t1)).alloc (.cells (madeCells z5 (n * 5)) t5)) := by
  have e1 : (w.alloc (.cells (madeCells z1 n) t1)).heap.size = w.heap.size + 1 := by simp
  have hb1 := below1 (w.alloc (.cells (madeCells z1 n) t1)) (.cells (madeCells z5 (n * 5)) t5)
  have o1 := (Own.new w (madeCells z1 n) t1).call hb1
  have o5 := Own.new (w.alloc (.cells (madeCells z1 n) t1)) (madeCells z5 (n * 5)) t5
  rw [e1] at o5
  refine ⟨⟨below2 _ _ _, o5, fun o ho => ?_, fun i hi => by omega, by omega⟩, o1, fun o ho => ?_, fun i hi => by omega, Nat.le_refl _, by omega⟩
  · have := (made_there (w.alloc (.cells (madeCells z1 n) t1)) z5 (n * 5) t5 o ho).1
    rwa [e1] at this
  · rw [hb1.cell (p := ⟨w.heap.size, o, none⟩) (by show w.heap.size < _; omega)]
    exact (made_there w z1 n t1 o ho).1
/-- a new limiter's pointer is stored -/
theorem BG.put {D : Dat} {G : Nat → Nat} {n gb tb k g : Nat} {w W : World} (h : BG D G n gb tb k w W) (hk : k < n) : BL D G n tb k w (W.setCell ⟨gb, k, none⟩ (.pointer (some ⟨g, 0, none⟩))) ∧ Own gb (W.setCell ⟨gb, k, none⟩ (.pointer (some ⟨g, 0, none⟩))) ∧
    (∀ o, o < n → ((W.setCell ⟨gb, k, none⟩ (.pointer (some ⟨g, 0, none⟩))).cell? ⟨gb, o, none⟩).isSome = true) ∧ (W.setCell ⟨gb, k, none⟩ (.pointer (some ⟨g, 0, none⟩))).cell? ⟨gb, k, none⟩ = some (.pointer (some ⟨g, 0, none⟩)) ∧
    (∀ i, i < k → (W.setCell ⟨gb, k, none⟩ (.pointer (some ⟨g, 0, none⟩))).cell? ⟨gb, i, none⟩ = some (.pointer (some ⟨G i, 0, none⟩))) := by
  have hne := h.ne
  have kb := fun (b : Nat) (hb : b ≠ gb) => heap_setCell_other W ⟨gb, k, none⟩ b (.pointer (some ⟨g, 0, none⟩)) hb
  have kc := fun (b o : Nat) (hb : b ≠ gb) => World.cell?_of_block (w := W) (a := ⟨b, o, none⟩) (kb b hb)
  refine ⟨⟨h.bl.below.setCell (p := ⟨gb, k, none⟩) h.old _, h.bl.own.set _ _, fun o ho => isSome_set (h.bl.there o ho), fun i hi => ⟨⟨?_, ⟨?_, ?_, ?_, ?_, ?_⟩⟩, (h.bl.ins i hi).2⟩, h.bl.old⟩, h.own.set _ _, fun o ho => isSome_set (h.there o ho), World.cell?_setCell_same' _ _ _ (h.there k hk), fun i hi => ?_⟩
  · exact (kb (G i) (h.ptr i hi).2).trans (h.bl.ins i hi).1.gc
  · rw [kc _ _ hne.symm]; exact (h.bl.ins i hi).1.tc.c0
  · rw [kc _ _ hne.symm]; exact (h.bl.ins i hi).1.tc.c1
  · rw [kc _ _ hne.symm]; exact (h.bl.ins i hi).1.tc.c2
  · rw [kc _ _ hne.symm]; exact (h.bl.ins i hi).1.tc.c3
  · rw [kc _ _ hne.symm]; exact (h.bl.ins i hi).1.tc.c4
  · rw [World.cell?_setCell_other _ _ _ _ (by intro e; injection e; omega)]; exact (h.ptr i hi).1
/-- .. and its turn -/
theorem BG.step {D : Dat} {G : Nat → Nat} {n gb tb k g : Nat} {w W : World} {v0 v1 v2 v3 v4 : Value} (hB : BL D G n tb k w W) (ho : Own gb W) (ht : ∀ o, o < n → (W.cell? ⟨gb, o, none⟩).isSome = true) (hpk : W.cell? ⟨gb, k, none⟩ = some (.pointer (some ⟨g, 0, none⟩)))
    (hp : ∀ i, i < k → W.cell? ⟨gb, i, none⟩ = some (.pointer (some ⟨G i, 0, none⟩)) ∧ G i ≠ gb) (hold : w.heap.size ≤ gb) (hne : gb ≠ tb) (hg : GC g (D.L k).toNat (D.P k).toNat (D.B k).toNat W) (hgt : g ≠ tb) (hgg : g ≠ gb)
    (hq : qv (D.L k).toNat ((D.NS k).toNat * (D.L k).toNat + (D.FR k).toNat) = D.NS k) (hr : rv (D.L k).toNat ((D.NS k).toNat * (D.L k).toNat + (D.FR k).toNat) = D.FR k)
    (e0 : W.cell? ⟨tb, k * 5, none⟩ = some v0) (e1 : W.cell? ⟨tb, k * 5 + 1, none⟩ = some v1) (e2 : W.cell? ⟨tb, k * 5 + 2, none⟩ = some v2) (e3 : W.cell? ⟨tb, k * 5 + 3, none⟩ = some v3) (e4 : W.cell? ⟨tb, k * 5 + 4, none⟩ = some v4) :
    BG D (fun i => if i = k then g else G i) n gb tb (k + 1) w (((((W.setCell ⟨tb, k * 5, none⟩ (.pointer (some ⟨g, 0, none⟩))).setCell ⟨tb, k * 5 + 1, none⟩ (.bool (D.Q k))).setCell ⟨tb, k * 5 + 2, none⟩ (.int .i64 (D.NS k))).setCell ⟨tb, k * 5 + 3, none⟩ (.int .u64 (D.FR k))).setCell ⟨tb, k * 5 + 4, none⟩ (.int .u64 (D.LT k))) := by
  have kb := fun (X : World) (o : Nat) (v : Value) => heap_setCell_other X ⟨tb, o, none⟩ gb v hne
  have k5 : (((((W.setCell ⟨tb, k * 5, none⟩ (.pointer (some ⟨g, 0, none⟩))).setCell ⟨tb, k * 5 + 1, none⟩ (.bool (D.Q k))).setCell ⟨tb, k * 5 + 2, none⟩ (.int .i64 (D.NS k))).setCell ⟨tb, k * 5 + 3, none⟩ (.int .u64 (D.FR k))).setCell ⟨tb, k * 5 + 4, none⟩ (.int .u64 (D.LT k))).heap[gb]? = W.heap[gb]? := by
    rw [kb, kb, kb, kb, kb]
  have kc := fun (o : Nat) => World.cell?_of_block (w := W) (a := ⟨gb, o, none⟩) k5
  refine ⟨BL.step hB hg hgt hq hr e0 e1 e2 e3 e4, ((((ho.set _ _).set _ _).set _ _).set _ _).set _ _, fun o h => by rw [kc]; exact ht o h, fun i hi => ?_, hold, hne⟩
  rw [kc]
  by_cases e : i = k
  · subst e
    rw [if_pos rfl]
    exact ⟨hpk, hgg⟩
  · rw [if_neg e]
    exact hp i (by omega)

/-- THE DECISIONS ONE BY ONE: the rows at s, s + 1, s + 2, s + 3: what each check decides by itself; is it well; is it allowed; after how long -/
structure RD (C : Nat → Chk) (cn n s : Nat) (lg : Int) (j0 j1 j2 j3 : Nat) (w W : World) : Prop where
  below : Below s w W
  size : s + 3 < W.heap.size
  f0 : ∀ o, W.frozen? ⟨s, o, none⟩ = false
  f1 : ∀ o, W.frozen? ⟨s + 1, o, none⟩ = false
  f2 : ∀ o, W.frozen? ⟨s + 2, o, none⟩ = false
  f3 : ∀ o, W.frozen? ⟨s + 3, o, none⟩ = false
  t0 : ∀ o, o < n * 5 → (W.cell? ⟨s, o, none⟩).isSome = true
  t1 : ∀ o, o < n → (W.cell? ⟨s + 1, o, none⟩).isSome = true
  t2 : ∀ o, o < n → (W.cell? ⟨s + 2, o, none⟩).isSome = true
  t3 : ∀ o, o < n → (W.cell? ⟨s + 3, o, none⟩).isSome = true
  ds : ∀ i, i < j0 → DC s (i * 5) (!ltB (room (C i).p (C i).b cn) (C i).A) (C i).b (remv (C i).p (C i).b (C i).A) (retryv (C i).l (C i).p (C i).b cn (C i).A) (cv (C i).l (C i).A) W
  oks : ∀ i, i < j1 → W.cell? ⟨s + 1, i, none⟩ = some (.bool ((C i).ok cn))
  als : ∀ i, i < j2 → W.cell? ⟨s + 2, i, none⟩ = some (.bool ((C i).alw cn lg))
  afs : ∀ i, i < j3 → W.cell? ⟨s + 3, i, none⟩ = some (.int .i64 ((C i).aft cn))
theorem RD.call {C : Nat → Chk} {cn n s : Nat} {lg : Int} {j0 j1 j2 j3 : Nat} {w W W' : World} (h : RD C cn n s lg j0 j1 j2 j3 w W) (hb : Below W.heap.size W W') : RD C cn n s lg j0 j1 j2 j3 w W' := by
  have hs := h.size
  have c := fun (b o : Nat) (hb' : b < W.heap.size) => hb.cell (p := ⟨b, o, none⟩) hb'
  have f := fun (b o : Nat) (hb' : b < W.heap.size) => hb.frozen (p := ⟨b, o, none⟩) hb'
  exact ⟨below_call h.below hb (by omega), Nat.lt_of_lt_of_le hs hb.size, fun o => (f _ o (by omega)).trans (h.f0 o), fun o => (f _ o (by omega)).trans (h.f1 o), fun o => (f _ o (by omega)).trans (h.f2 o), fun o => (f _ o (by omega)).trans (h.f3 o),
    fun o ho => by rw [c _ o (by omega)]; exact h.t0 o ho, fun o ho => by rw [c _ o (by omega)]; exact h.t1 o ho, fun o ho => by rw [c _ o (by omega)]; exact h.t2 o ho, fun o ho => by rw [c _ o (by omega)]; exact h.t3 o ho,
    fun i hi => (h.ds i hi).call hb, fun i hi => (c _ i (by omega)).trans (h.oks i hi), fun i hi => (c _ i (by omega)).trans (h.als i hi), fun i hi => (c _ i (by omega)).trans (h.afs i hi)⟩
theorem RD.drew {C : Nat → Chk} {cn n s : Nat} {lg : Int} {j0 j1 j2 j3 : Nat} {w W : World} (h : RD C cn n s lg j0 j1 j2 j3 w W) : RD C cn n s lg j0 j1 j2 j3 w W.drew :=
  ⟨h.below.drew, h.size, h.f0, h.f1, h.f2, h.f3, h.t0, h.t1, h.t2, h.t3, fun i hi => (h.ds i hi).drew, h.oks, h.als, h.afs⟩
theorem RD.ready {C : Nat → Chk} {cn n s : Nat} {lg : Int} {j0 j1 j2 j3 : Nat} {w W : World} (h : RD C cn n s lg j0 j1 j2 j3 w W) (i : Nat) (hi : i < n) : Ready s (i * 5) W := fun j hj => ⟨h.t0 _ (by omega), h.f0 _⟩
/-- a decision is written -/
theorem RD.dec {C : Nat → Chk} {cn n s : Nat} {lg : Int} {j j1 j2 j3 : Nat} {w W W' : World} (h : RD C cn n s lg j j1 j2 j3 w W) (hw : Wr s (j * 5) 5 W W')
    (hd : DC s (j * 5) (!ltB (room (C j).p (C j).b cn) (C j).A) (C j).b (remv (C j).p (C j).b (C j).A) (retryv (C j).l (C j).p (C j).b cn (C j).A) (cv (C j).l (C j).A) W') : RD C cn n s lg (j + 1) j1 j2 j3 w W' := by
  have hs := h.size
  have c := fun (b o : Nat) (h1 : b < W.heap.size) (h2 : b ≠ s) => hw.cell h1 h2 o
  have f := fun (b o : Nat) (h1 : b < W.heap.size) (h2 : b ≠ s) => World.frozen?_of_block (w := W) (a := ⟨b, o, none⟩) (hw.block b h1 h2)
  refine ⟨h.below.trans (hw.below (Nat.le_refl _)), Nat.lt_of_lt_of_le hs hw.size, fun o => (hw.frozen o).trans (h.f0 o), fun o => (f _ o (by omega) (by omega)).trans (h.f1 o), fun o => (f _ o (by omega) (by omega)).trans (h.f2 o), fun o => (f _ o (by omega) (by omega)).trans (h.f3 o),
    fun o ho => hw.there o (h.t0 o ho), fun o ho => by rw [c _ o (by omega) (by omega)]; exact h.t1 o ho, fun o ho => by rw [c _ o (by omega) (by omega)]; exact h.t2 o ho, fun o ho => by rw [c _ o (by omega) (by omega)]; exact h.t3 o ho,
    fun i hi => ?_, fun i hi => (c _ i (by omega) (by omega)).trans (h.oks i hi), fun i hi => (c _ i (by omega) (by omega)).trans (h.als i hi), fun i hi => (c _ i (by omega) (by omega)).trans (h.afs i hi)⟩
  rcases Nat.lt_or_ge i j with hi' | hi'
  · exact (h.ds i hi').same fun o _ ho => hw.rest o (.inl (by omega))
  · have e : i = j := by omega
    subst e
    exact hd
/-- one cell in one of the other three rows is written -/
theorem RD.put {C : Nat → Chk} {cn n s b o : Nat} {lg : Int} {j0 j1 j2 j3 : Nat} {w W : World} (h : RD C cn n s lg j0 j1 j2 j3 w W) (v : Value) (hb : s < b) (h1 : b = s + 1 → j1 ≤ o) (h2 : b = s + 2 → j2 ≤ o) (h3 : b = s + 3 → j3 ≤ o) : RD C cn n s lg j0 j1 j2 j3 w (W.setCell ⟨b, o, none⟩ v) := by
  have hs := h.size
  have c := fun (b' o' : Nat) (hne : b' ≠ b ∨ o' ≠ o) => World.cell?_setCell_other W ⟨b, o, none⟩ ⟨b', o', none⟩ v (by intro e; injection e; omega)
  have f := fun (b' o' : Nat) => World.frozen?_setCell W ⟨b, o, none⟩ ⟨b', o', none⟩ v
  refine ⟨h.below.setCell (p := ⟨b, o, none⟩) (by show s ≤ b; omega) v, by simpa [World.setCell] using hs, fun o => (f _ o).trans (h.f0 o), fun o => (f _ o).trans (h.f1 o), fun o => (f _ o).trans (h.f2 o), fun o => (f _ o).trans (h.f3 o),
    fun o ho => isSome_set (h.t0 o ho), fun o ho => isSome_set (h.t1 o ho), fun o ho => isSome_set (h.t2 o ho), fun o ho => isSome_set (h.t3 o ho),
    fun i hi => (h.ds i hi).own (q := ⟨b, o, none⟩) (by show b ≠ s; omega) v, fun i hi => (c _ i (by omega)).trans (h.oks i hi), fun i hi => (c _ i (by omega)).trans (h.als i hi), fun i hi => (c _ i (by omega)).trans (h.afs i hi)⟩
theorem RD.put1 {C : Nat → Chk} {cn n s : Nat} {lg : Int} {j0 j j2 j3 : Nat} {w W : World} (h : RD C cn n s lg j0 j j2 j3 w W) (hj : j < n) (x : Bool) (hx : (C j).ok cn = x) : RD C cn n s lg j0 (j + 1) j2 j3 w (W.setCell ⟨s + 1, j, none⟩ (.bool x)) := by
  have k := h.put (b := s + 1) (o := j) (.bool x) (by omega) (fun _ => Nat.le_refl _) (by omega) (by omega)
  refine ⟨k.below, k.size, k.f0, k.f1, k.f2, k.f3, k.t0, k.t1, k.t2, k.t3, k.ds, fun i hi => ?_, k.als, k.afs⟩
  rcases Nat.lt_or_ge i j with hi' | hi'
  · exact k.oks i hi'
  · have e : i = j := by omega
    subst e
    rw [hx]
    exact World.cell?_setCell_same' _ _ _ (h.t1 i hj)
theorem RD.put2 {C : Nat → Chk} {cn n s : Nat} {lg : Int} {j0 j1 j j3 : Nat} {w W : World} (h : RD C cn n s lg j0 j1 j j3 w W) (hj : j < n) (x : Bool) (hx : (C j).alw cn lg = x) : RD C cn n s lg j0 j1 (j + 1) j3 w (W.setCell ⟨s + 2, j, none⟩ (.bool x)) := by
  have k := h.put (b := s + 2) (o := j) (.bool x) (by omega) (by omega) (fun _ => Nat.le_refl _) (by omega)
  refine ⟨k.below, k.size, k.f0, k.f1, k.f2, k.f3, k.t0, k.t1, k.t2, k.t3, k.ds, k.oks, fun i hi => ?_, k.afs⟩
  rcases Nat.lt_or_ge i j with hi' | hi'
  · exact k.als i hi'
  · have e : i = j := by omega
    subst e
    rw [hx]
    exact World.cell?_setCell_same' _ _ _ (h.t2 i hj)
theorem RD.put3 {C : Nat → Chk} {cn n s : Nat} {lg : Int} {j0 j1 j2 j : Nat} {w W : World} (h : RD C cn n s lg j0 j1 j2 j w W) (hj : j < n) (x : Int) (hx : (C j).aft cn = x) : RD C cn n s lg j0 j1 j2 (j + 1) w (W.setCell ⟨s + 3, j, none⟩ (.int .i64 x)) := by
  have k := h.put (b := s + 3) (o := j) (.int .i64 x) (by omega) (by omega) (by omega) (fun _ => Nat.le_refl _)
  refine ⟨k.below, k.size, k.f0, k.f1, k.f2, k.f3, k.t0, k.t1, k.t2, k.t3, k.ds, k.oks, k.als, fun i hi => ?_⟩
  rcases Nat.lt_or_ge i j with hi' | hi'
  · exact k.afs i hi'
  · have e : i = j := by omega
    subst e
    rw [hx]
    exact World.cell?_setCell_same' _ _ _ (h.t3 i hj)
/-- the four new rows -/
theorem RD.start {C : Nat → Chk} {cn n : Nat} {lg : Int} {w : World} {z0 z1 z2 z3 : Array Value} {t0 t1 t2 t3 : TypeId} : RD C cn n w.heap.size lg 0 0 0 0 w ((((w.alloc (.cells (madeCells z0 (n * 5)) t0)).alloc (.cells (madeCells z1 n) t1)).alloc (.cells (madeCells z2 n) t2)).alloc (.cells (madeCells z3 n) t3)) := by
  obtain ⟨W1, hW1⟩ : ∃ W1, w.alloc (.cells (madeCells z0 (n * 5)) t0) = W1 := ⟨_, rfl⟩
  obtain ⟨W2, hW2⟩ : ∃ W2, W1.alloc (.cells (madeCells z1 n) t1) = W2 := ⟨_, rfl⟩
  obtain ⟨W3, hW3⟩ : ∃ W3, W2.alloc (.cells (madeCells z2 n) t2) = W3 := ⟨_, rfl⟩
  obtain ⟨W4, hW4⟩ : ∃ W4, W3.alloc (.cells (madeCells z3 n) t3) = W4 := ⟨_, rfl⟩
  have s1 : W1.heap.size = w.heap.size + 1 := by rw [← hW1]; simp
  have s2 : W2.heap.size = w.heap.size + 2 := by rw [← hW2]; simp [s1]
  have s3 : W3.heap.size = w.heap.size + 3 := by rw [← hW3]; simp [s2]
  have s4 : W4.heap.size = w.heap.size + 4 := by rw [← hW4]; simp [s3]
  have m0 := fun o (ho : o < n * 5) => made_there w z0 (n * 5) t0 o ho
  have m1 := fun o (ho : o < n) => made_there W1 z1 n t1 o ho
  have m2 := fun o (ho : o < n) => made_there W2 z2 n t2 o ho
  have m3 := fun o (ho : o < n) => made_there W3 z3 n t3 o ho
  have g0 := fun o => World.frozen?_alloc_new w (madeCells z0 (n * 5)) t0 o
  have g1 := fun o => World.frozen?_alloc_new W1 (madeCells z1 n) t1 o
  have g2 := fun o => World.frozen?_alloc_new W2 (madeCells z2 n) t2 o
  have g3 := fun o => World.frozen?_alloc_new W3 (madeCells z3 n) t3 o
  have b1 := below1 w (.cells (madeCells z0 (n * 5)) t0)
  have b2 := below1 W1 (.cells (madeCells z1 n) t1)
  have b3 := below1 W2 (.cells (madeCells z2 n) t2)
  have b4 := below1 W3 (.cells (madeCells z3 n) t3)
  rw [hW1] at m0 g0 b1
  rw [hW2] at m1 g1 b2
  rw [hW3] at m2 g2 b3
  rw [hW4] at m3 g3 b4
  rw [hW1, hW2, hW3, hW4]
  have b34 := b3.trans (b4.mono (by omega))
  have b24 := b2.trans (b34.mono (by omega))
  have b14 := b1.trans (b24.mono (by omega))
  refine ⟨b14, by omega, fun o => ?_, fun o => ?_, fun o => ?_, fun o => ?_, fun o ho => ?_, fun o ho => ?_, fun o ho => ?_, fun o ho => ?_, fun i hi => by omega, fun i hi => by omega, fun i hi => by omega, fun i hi => by omega⟩
  · rw [b24.frozen (p := ⟨w.heap.size, o, none⟩) (by show w.heap.size < _; omega)]; exact g0 o
  · rw [b34.frozen (p := ⟨w.heap.size + 1, o, none⟩) (by show w.heap.size + 1 < _; omega), ← s1]; exact g1 o
  · rw [b4.frozen (p := ⟨w.heap.size + 2, o, none⟩) (by show w.heap.size + 2 < _; omega), ← s2]; exact g2 o
  · rw [← s3]; exact g3 o
  · rw [b24.cell (p := ⟨w.heap.size, o, none⟩) (by show w.heap.size < _; omega)]; exact (m0 o ho).1
  · rw [b34.cell (p := ⟨w.heap.size + 1, o, none⟩) (by show w.heap.size + 1 < _; omega), ← s1]; exact (m1 o ho).1
  · rw [b4.cell (p := ⟨w.heap.size + 2, o, none⟩) (by show w.heap.size + 2 < _; omega), ← s2]; exact (m2 o ho).1
  · rw [← s3]; exact (m3 o ho).1
/-- THE LISTED CELLS; nothing of w has turned; the block rb is one's own -/
@[reducible] def HO (w : World) (rb : Nat) : List (Addr × Value) → World → Prop
  | [], W => Below w.heap.size w W ∧ Own rb W
  | x :: L, W => W.cell? x.1 = some x.2 ∧ HO w rb L W
theorem HO.map {w : World} {rb : Nat} {W W' : World} (hR : Below w.heap.size w W ∧ Own rb W → Below w.heap.size w W' ∧ Own rb W') : ∀ {L : List (Addr × Value)} (hc : ∀ x ∈ L, W.cell? x.1 = some x.2 → W'.cell? x.1 = some x.2), HO w rb L W → HO w rb L W'
  | [], _, h => hR h
  | x :: L, hc, h => ⟨hc x (by simp) h.1, HO.map hR (fun y hy => hc y (by simp [hy])) h.2⟩
theorem HO.base {w : World} {rb : Nat} {W : World} : ∀ {L : List (Addr × Value)}, HO w rb L W → Below w.heap.size w W ∧ Own rb W
  | [], h => h
  | _ :: _, h => HO.base h.2
theorem HO.drew {w : World} {rb : Nat} {W : World} {L : List (Addr × Value)} (h : HO w rb L W) : HO w rb L W.drew := HO.map (W := W) (W' := W.drew) (fun h => ⟨h.1.drew, h.2.drew⟩) (fun x _ h => h) h
theorem HO.call {w : World} {rb : Nat} {W W' : World} {L : List (Addr × Value)} (h : HO w rb L W) (hb : Below W.heap.size W W') : HO w rb L W' :=
  HO.map (fun h => ⟨below_call h.1 hb h.1.size, h.2.call hb⟩) (fun x _ h => by rw [hb.cell (World.block_lt_of_cell? W _ h)]; exact h) h
theorem HO.put {w : World} {rb o : Nat} {W : World} {L : List (Addr × Value)} (h : HO w rb L W) (hL : ∀ x ∈ L, x.1.block ≠ rb) (hq : w.heap.size ≤ rb) (v : Value) : HO w rb L (W.setCell ⟨rb, o, none⟩ v) :=
  HO.map (fun h => ⟨h.1.setCell (p := ⟨rb, o, none⟩) hq v, h.2.set _ _⟩) (fun x hx h => by
    have k := hL x hx
    rw [World.cell?_setCell_other _ _ _ _ (by intro e; rw [← e] at k; exact k rfl)]; exact h) h
theorem HO.put5 {w : World} {rb o : Nat} {W : World} {L : List (Addr × Value)} (h : HO w rb L W) (hL : ∀ x ∈ L, x.1.block ≠ rb) (hq : w.heap.size ≤ rb) (v0 v1 v2 v3 v4 : Value) :
    HO w rb L (((((W.setCell ⟨rb, o, none⟩ v0).setCell ⟨rb, o + 1, none⟩ v1).setCell ⟨rb, o + 2, none⟩ v2).setCell ⟨rb, o + 3, none⟩ v3).setCell ⟨rb, o + 4, none⟩ v4) :=
  ((((h.put hL hq v0).put hL hq v1).put hL hq v2).put hL hq v3).put hL hq v4
theorem set6g {D : Dat} {G : Nat → Nat} {n cn tb : Nat} {lg : Int} {w W : World} (hc : 1 ≤ cn) (hB : BL D G n tb n w W) (hF : ∀ i, i < n → FitAt lg cn (D.L i) (D.P i) (D.B i) (D.NS i) (D.FR i)) (hwf : Wfs D.L D.P D.B D.NS D.FR n) (hlt : ∀ i, i < n → 0 ≤ D.LT i ∧ D.LT i < 18446744073709551616) :
    ∃ C, Set6 D C n cn tb lg W ∧ ∀ i, (C i).g = G i := by
  refine ⟨fun i => D.chk i (G i), ⟨fun i hi => D.good i (G i) lg cn hc (hF i hi) (hwf.ns i hi).2 (hwf.fr i hi).1 (hlt i hi), fun i hi => (hB.ins i hi).1, fun i hi => (hF i hi).sum, fun i hi => ?_, fun i hi => ?_, fun i hi => ?_, fun i hi => ?_, fun _ _ => rfl, fun _ _ => rfl⟩, fun _ => rfl⟩
  · exact (chk_A (D.NS i) (D.FR i) (D.L i) (hF i hi).l0 (hF i hi).ns0 (hwf.fr i hi).1 (hF i hi).frl).1
  · exact (chk_A (D.NS i) (D.FR i) (D.L i) (hF i hi).l0 (hF i hi).ns0 (hwf.fr i hi).1 (hF i hi).frl).2
  · have := (hF i hi).cb; exact Int.toNat_of_nonneg (by omega)
  · have := (hF i hi).l0; exact Int.toNat_of_nonneg (by omega)
/-- how long the check waits -/
def Chk.wt (k : Chk) (c : Nat) : Int := waitv k.l k.p k.b c k.A k.qu
theorem Chk.wt_b {k : Chk} {c : Nat} (h : k.Good c) : 0 ≤ k.wt c ∧ k.wt c ≤ 9223372036854775807 := ⟨waitv_nn _ _ _ _ _ _, waitv_le _ _ _ _ _ _ h.hA⟩
theorem Chk.aft_yes {k : Chk} {c : Nat} (h : k.late ≤ 9223372036854775807 - k.wt c) : k.aft c = k.wt c + k.late := if_pos h
theorem Chk.aft_no {k : Chk} {c : Nat} (h : ¬ k.late ≤ 9223372036854775807 - k.wt c) : k.aft c = 9223372036854775807 := if_neg h
/-- WHAT LAW 5 STANDS ON, BEHIND RESERVE's CALL -/
structure E5 (D : Dat) (C : Nat → Chk) (k cn gb d1 n1 : Nat) (z : Int) (ad : Bool) (dl : Int) (w1 : World) : Prop where
  good : ∀ i, i < k → (C i).Good cn
  gc : ∀ i, i < k → GC (C i).g (C i).l (C i).p (C i).b w1
  ptr : ∀ i, i < k → w1.cell? ⟨gb, i, none⟩ = some (.pointer (some ⟨(C i).g, 0, none⟩))
  dec : ∀ i, i < k → (C i).Dec cn z ad dl d1 (i * 5) w1
  nxt : ∀ i, i < k → (C i).Nxt cn ad dl n1 (i * 2) w1
  q : ∀ i, i < k → qv (C i).l (C i).A = D.NS i
  r : ∀ i, i < k → rv (C i).l (C i).A = D.FR i
  b : ∀ i, i < k → ((C i).b : Int) = D.B i
  l : ∀ i, i < k → ((C i).l : Int) = D.L i
  late : ∀ i, i < k → (C i).late = D.LT i
  qu : ∀ i, i < k → (C i).qu = D.Q i
  nf : ad = true → ∀ i, i < k → (C i).late ≤ 9223372036854775807 ∧ cv (C i).l ((C i).nx cn true dl) ≤ 9223372036854775807
theorem E5.of {D : Dat} {C : Nat → Chk} {G : Nat → Nat} {k cn gb tb : Nat} {z lg : Int} {w W w1 : World} (hB : BG D G k gb tb k w W) (hS : Set6 D C k cn tb lg W) (hg : ∀ i, (C i).g = G i) (hb : Below W.heap.size W w1) (hlg0 : 0 ≤ lg) (hlg : z ≤ lg) {d1 n1 : Nat}
    (hd : ∀ i, i < k → (C i).Dec cn z (adm C cn z k) (del C cn k) d1 (i * 5) w1) (hn : ∀ i, i < k → (C i).Nxt cn (adm C cn z k) (del C cn k) n1 (i * 2) w1) : E5 D C k cn gb d1 n1 z (adm C cn z k) (del C cn k) w1 := by
  refine ⟨hS.good, fun i hi => (hS.ins i hi).gc.later hb, fun i hi => ?_, hd, hn, hS.q, hS.r, hS.b, hS.l, hS.late, hS.qu, fun h i hi => ?_⟩
  · rw [hg i, hb.cell (p := ⟨gb, i, none⟩) hB.own.1]
    exact (hB.ptr i hi).1
  · have hh := adm_all h i hi
    obtain ⟨d0, d1⟩ := adm_del hS.good (by omega) h
    exact ⟨(alw_late (hS.good i hi) hh).1, nx_fits (hS.good i hi) hh hlg0 hlg d1 (hS.sum i hi)⟩
theorem HA.lt {W0 W : World} : ∀ {L : List (Addr × Value)}, HA W0 L W → ∀ x ∈ L, x.1.block < W.heap.size
  | [], _, x, hx => by cases hx
  | y :: L, h, x, hx => by
    rcases List.mem_cons.1 hx with rfl | hx
    · exact World.block_lt_of_cell? W _ h.1
    · exact HA.lt h.2 x hx
theorem HA.wr {W0 W W' : World} {s d n : Nat} {L : List (Addr × Value)} (h : HA W0 L W) (hL : ∀ x ∈ L, x.1.block ≠ s) (hs : W0.heap.size ≤ s) (hw : Wr s d n W W') : HA W0 L W' :=
  HA.map (fun h => h.trans (hw.below hs)) (fun x hx h => by rw [World.cell?_of_block (w := W) (hw.block x.1.block (World.block_lt_of_cell? W _ h) (hL x hx))]; exact h) h
/-- the input's cells of a check, and its limiter's pointer -/
@[reducible] def L2 (A3 A4 A5 A6 : Addr) (gb j g : Nat) (qu : Bool) (ns fr late : Int) : List (Addr × Value) := [(A3, .bool qu), (A4, .int .i64 ns), (A5, .int .u64 fr), (A6, .int .u64 late), (⟨gb, j, none⟩, .pointer (some ⟨g, 0, none⟩))]
theorem E5.row2 {D : Dat} {C : Nat → Chk} {k cn gb d1 n1 j : Nat} {z : Int} {ad : Bool} {dl : Int} {w1 W : World} {A3 A4 A5 A6 : Addr} (h : E5 D C k cn gb d1 n1 z ad dl w1) (hj : j < k)
    (m3 : w1.cell? A3 = some (.bool (D.Q j))) (m4 : w1.cell? A4 = some (.int .i64 (D.NS j))) (m5 : w1.cell? A5 = some (.int .u64 (D.FR j))) (m6 : w1.cell? A6 = some (.int .u64 (D.LT j))) (hb : Below w1.heap.size w1 W) :
    HA w1 (L2 A3 A4 A5 A6 gb j (C j).g (C j).qu (qv (C j).l (C j).A) (rv (C j).l (C j).A) (C j).late) W ∧ ∀ x ∈ L2 A3 A4 A5 A6 gb j (C j).g (C j).qu (qv (C j).l (C j).A) (rv (C j).l (C j).A) (C j).late, x.1.block < w1.heap.size := by
  have e : HA w1 (L2 A3 A4 A5 A6 gb j (C j).g (C j).qu (qv (C j).l (C j).A) (rv (C j).l (C j).A) (C j).late) w1 := by
    rw [h.q j hj, h.r j hj, h.late j hj, h.qu j hj]
    exact ⟨m3, m4, m5, m6, h.ptr j hj, Below.refl _ _⟩
  exact ⟨e.call hb, e.lt⟩
theorem HA.box {W0 W : World} {L : List (Addr × Value)} (h : HA W0 L W) (u v : Value) (t : TypeId) : HA W0 ((⟨W.heap.size, 0, none⟩, u) :: (⟨W.heap.size, 1, none⟩, v) :: L) (W.alloc (.cells #[u, v] t)) :=
  ⟨new_cell0 W #[u, v] t 0, new_cell0 W #[u, v] t 1, h.alloc _⟩
theorem HA.off {W0 W : World} {L : List (Addr × Value)} (h : HA W0 L W) : ∀ x ∈ L, x.1.block ≠ W.heap.size := fun x hx => Nat.ne_of_lt (h.lt x hx)
theorem HA.drewN {W0 W : World} {L : List (Addr × Value)} (h : HA W0 L W) (n : Nat) : HA W0 L (W.drewN n) := HA.map (W := W) (W' := W.drewN n) (fun h => below_drewN h n) (fun x _ h => h) h
/-- a decision's cells, as the law's loop reads them -/
theorem dec2 {k : Chk} {c s d : Nat} {w : World} (h : DC s d (!ltB (room k.p k.b c) k.A) k.b (remv k.p k.b k.A) (retryv k.l k.p k.b c k.A) (cv k.l k.A) w) :
    ∃ (al : Bool) (rt ct : Int), w.cell? ⟨s, d, none⟩ = some (.bool al) ∧ w.cell? ⟨s, d + 3, none⟩ = some (.int .i64 rt) ∧ w.cell? ⟨s, d + 4, none⟩ = some (.int .i64 ct) ∧ (k.qu = true → k.ok c = al ∧ k.wt c = ct) ∧ (k.qu = false → k.ok c = true ∧ k.wt c = rt) := by
  refine ⟨_, _, _, h.c0, h.c3, h.c4, fun hq => ?_, fun hq => ?_⟩
  · unfold Chk.ok Chk.wt okv waitv
    rw [hq]
    exact ⟨rfl, rfl⟩
  · unfold Chk.ok Chk.wt okv waitv
    rw [hq]
    exact ⟨rfl, rfl⟩
end Go.Proofs.Qxb6612665a.W
