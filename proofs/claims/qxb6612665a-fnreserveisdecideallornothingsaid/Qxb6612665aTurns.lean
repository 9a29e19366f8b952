import Derived.Test.Qxb6612665aBuild
namespace Go.Proofs.Qxb6612665a.W
open Go.RowKit
set_option linter.unusedVariables false

/-- k turns are built in the row at tb -/
structure BL (D : Dat) (G : Nat → Nat) (n tb k : Nat) (w W : World) : Prop where
  below : Below w.heap.size w W
  own : Own tb W
  there : ∀ o, o < n * 5 → (W.cell? ⟨tb, o, none⟩).isSome = true
  ins : ∀ i, i < k → (D.chk i (G i)).In tb (i * 5) W ∧ G i ≠ tb
  old : w.heap.size ≤ tb
theorem BL.call {D : Dat} {G : Nat → Nat} {n tb k : Nat} {w W W' : World} (h : BL D G n tb k w W) (hb : Below W.heap.size W W') : BL D G n tb k w W' :=
  ⟨below_call h.below hb h.below.size, h.own.call hb, fun o ho => by rw [hb.cell (p := ⟨tb, o, none⟩) h.own.1]; exact h.there o ho, fun i hi => ⟨(h.ins i hi).1.later hb, (h.ins i hi).2⟩, h.old⟩
theorem BL.drew {D : Dat} {G : Nat → Nat} {n tb k : Nat} {w W : World} (h : BL D G n tb k w W) : BL D G n tb k w W.drew :=
  ⟨h.below.drew, h.own, h.there, fun i hi => ⟨(h.ins i hi).1.drew, (h.ins i hi).2⟩, h.old⟩
theorem put5T {db d g : Nat} {W : World} {v0 v1 v2 v3 v4 : Value} (qu : Bool) (ns fr late : Int) (e0 : W.cell? ⟨db, d, none⟩ = some v0) (e1 : W.cell? ⟨db, d + 1, none⟩ = some v1) (e2 : W.cell? ⟨db, d + 2, none⟩ = some v2) (e3 : W.cell? ⟨db, d + 3, none⟩ = some v3) (e4 : W.cell? ⟨db, d + 4, none⟩ = some v4) :
    TC db d g qu ns fr late (((((W.setCell ⟨db, d, none⟩ (.pointer (some ⟨g, 0, none⟩))).setCell ⟨db, d + 1, none⟩ (.bool qu)).setCell ⟨db, d + 2, none⟩ (.int .i64 ns)).setCell ⟨db, d + 3, none⟩ (.int .u64 fr)).setCell ⟨db, d + 4, none⟩ (.int .u64 late)) := by
  have ne : ∀ (i j : Nat), i ≠ j → (⟨db, i, none⟩ : Addr) ≠ ⟨db, j, none⟩ := fun i j h h' => by injection h'; omega
  have o := fun (X : World) (i j : Nat) (v : Value) (h : i ≠ j) => World.cell?_setCell_other X ⟨db, i, none⟩ ⟨db, j, none⟩ v (ne i j h)
  refine ⟨?_, ?_, ?_, ?_, ?_⟩
  · rw [o _ _ _ _ (by omega), o _ _ _ _ (by omega), o _ _ _ _ (by omega), o _ _ _ _ (by omega)]
    exact World.cell?_setCell_same _ _ _ e0
  · rw [o _ _ _ _ (by omega), o _ _ _ _ (by omega), o _ _ _ _ (by omega)]
    exact World.cell?_setCell_same _ _ _ (by rw [o _ _ _ _ (by omega)]; exact e1)
  · rw [o _ _ _ _ (by omega), o _ _ _ _ (by omega)]
    exact World.cell?_setCell_same _ _ _ (by rw [o _ _ _ _ (by omega), o _ _ _ _ (by omega)]; exact e2)
  · rw [o _ _ _ _ (by omega)]
    exact World.cell?_setCell_same _ _ _ (by rw [o _ _ _ _ (by omega), o _ _ _ _ (by omega), o _ _ _ _ (by omega)]; exact e3)
  · exact World.cell?_setCell_same _ _ _ (by rw [o _ _ _ _ (by omega), o _ _ _ _ (by omega), o _ _ _ _ (by omega), o _ _ _ _ (by omega)]; exact e4)
theorem isSome_set {W : World} {p q : Addr} {v : Value} (h : (W.cell? q).isSome = true) : ((W.setCell p v).cell? q).isSome = true := by
  by_cases e : p = q
  · subst e
    rw [World.cell?_setCell_same' _ _ _ h]; rfl
  · rw [World.cell?_setCell_other _ _ _ _ e]; exact h
theorem BL.step {D : Dat} {G : Nat → Nat} {n tb k g : Nat} {w W : World} {v0 v1 v2 v3 v4 : Value} (h : BL D G n tb k w W) (hg : GC g (D.L k).toNat (D.P k).toNat (D.B k).toNat W) (hgt : g ≠ tb)
    (hq : qv (D.L k).toNat ((D.NS k).toNat * (D.L k).toNat + (D.FR k).toNat) = D.NS k) (hr : rv (D.L k).toNat ((D.NS k).toNat * (D.L k).toNat + (D.FR k).toNat) = D.FR k)
    (e0 : W.cell? ⟨tb, k * 5, none⟩ = some v0) (e1 : W.cell? ⟨tb, k * 5 + 1, none⟩ = some v1) (e2 : W.cell? ⟨tb, k * 5 + 2, none⟩ = some v2) (e3 : W.cell? ⟨tb, k * 5 + 3, none⟩ = some v3) (e4 : W.cell? ⟨tb, k * 5 + 4, none⟩ = some v4) :
    BL D (fun i => if i = k then g else G i) n tb (k + 1) w (((((W.setCell ⟨tb, k * 5, none⟩ (.pointer (some ⟨g, 0, none⟩))).setCell ⟨tb, k * 5 + 1, none⟩ (.bool (D.Q k))).setCell ⟨tb, k * 5 + 2, none⟩ (.int .i64 (D.NS k))).setCell ⟨tb, k * 5 + 3, none⟩ (.int .u64 (D.FR k))).setCell ⟨tb, k * 5 + 4, none⟩ (.int .u64 (D.LT k))) := by
  have tc := put5T (g := g) (D.Q k) (D.NS k) (D.FR k) (D.LT k) e0 e1 e2 e3 e4
  have hb := h.below
  have hlt := h.old
  have kb := fun (X : World) (o b : Nat) (v : Value) (hne : b ≠ tb) => heap_setCell_other X ⟨tb, o, none⟩ b v hne
  have k5 := fun (b : Nat) (hne : b ≠ tb) => show (((((W.setCell ⟨tb, k * 5, none⟩ (.pointer (some ⟨g, 0, none⟩))).setCell ⟨tb, k * 5 + 1, none⟩ (.bool (D.Q k))).setCell ⟨tb, k * 5 + 2, none⟩ (.int .i64 (D.NS k))).setCell ⟨tb, k * 5 + 3, none⟩ (.int .u64 (D.FR k))).setCell ⟨tb, k * 5 + 4, none⟩ (.int .u64 (D.LT k))).heap[b]? = W.heap[b]? by
    rw [kb _ _ _ _ hne, kb _ _ _ _ hne, kb _ _ _ _ hne, kb _ _ _ _ hne, kb _ _ _ _ hne]
  have oc := fun (X : World) (i j : Nat) (v : Value) (hh : i ≠ j) => World.cell?_setCell_other X ⟨tb, i, none⟩ ⟨tb, j, none⟩ v (by intro e; injection e; omega)
  have c5 := fun (o : Nat) (ho : o < k * 5) => show (((((W.setCell ⟨tb, k * 5, none⟩ (.pointer (some ⟨g, 0, none⟩))).setCell ⟨tb, k * 5 + 1, none⟩ (.bool (D.Q k))).setCell ⟨tb, k * 5 + 2, none⟩ (.int .i64 (D.NS k))).setCell ⟨tb, k * 5 + 3, none⟩ (.int .u64 (D.FR k))).setCell ⟨tb, k * 5 + 4, none⟩ (.int .u64 (D.LT k))).cell? ⟨tb, o, none⟩ = W.cell? ⟨tb, o, none⟩ by
    rw [oc _ _ _ _ (by omega), oc _ _ _ _ (by omega), oc _ _ _ _ (by omega), oc _ _ _ _ (by omega), oc _ _ _ _ (by omega)]
  refine ⟨((((hb.setCell (p := ⟨tb, k * 5, none⟩) hlt _).setCell (p := ⟨tb, k * 5 + 1, none⟩) hlt _).setCell (p := ⟨tb, k * 5 + 2, none⟩) hlt _).setCell (p := ⟨tb, k * 5 + 3, none⟩) hlt _).setCell (p := ⟨tb, k * 5 + 4, none⟩) hlt _, ((((h.own.set _ _).set _ _).set _ _).set _ _).set _ _,
    fun o ho => isSome_set (isSome_set (isSome_set (isSome_set (isSome_set (h.there o ho))))), fun i hi => ?_, h.old⟩
  by_cases e : i = k
  · subst e
    rw [if_pos rfl]
    refine ⟨⟨?_, ?_⟩, hgt⟩
    · exact (k5 g hgt).trans hg
    · show TC tb (i * 5) g (D.Q i) (qv (D.L i).toNat ((D.NS i).toNat * (D.L i).toNat + (D.FR i).toNat)) (rv (D.L i).toNat ((D.NS i).toNat * (D.L i).toNat + (D.FR i).toNat)) (D.LT i) _
      rw [hq, hr]
      exact tc
  · rw [if_neg e]
    obtain ⟨⟨gc, t⟩, hn⟩ := h.ins i (by omega)
    refine ⟨⟨?_, ⟨?_, ?_, ?_, ?_, ?_⟩⟩, hn⟩
    · exact (k5 (G i) hn).trans gc
    · rw [c5 _ (by omega)]; exact t.c0
    · rw [c5 _ (by omega)]; exact t.c1
    · rw [c5 _ (by omega)]; exact t.c2
    · rw [c5 _ (by omega)]; exact t.c3
    · rw [c5 _ (by omega)]; exact t.c4
end Go.Proofs.Qxb6612665a.W
