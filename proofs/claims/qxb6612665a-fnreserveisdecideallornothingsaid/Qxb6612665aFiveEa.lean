import Derived.Test.Qxb6612665aFiveR
import Derived.BigQuiet
namespace Go.Proofs.Qxb6612665a.W
open Go.RowKit
set_option linter.unusedVariables false

/-- what the last loop reads of a check that is admitted -/
@[reducible] def L3t (A0 A2 A4 A5 A6 : Addr) (gb d1 n1 j l p b A g X : Nat) (lv : Int) : List (Addr × Value) := [(A0, .int .u64 (l : Int)), (A2, .int .i64 (b : Int)), (A4, .int .i64 (qv l A)), (A5, .int .u64 (rv l A)), (A6, .int .u64 lv), (⟨gb, j, none⟩, .pointer (some ⟨g, 0, none⟩)), (⟨d1, j * 5, none⟩, .bool true), (⟨d1, j * 5 + 1, none⟩, .int .i64 (b : Int)), (⟨d1, j * 5 + 2, none⟩, .int .i64 (remv p b X)), (⟨d1, j * 5 + 3, none⟩, .int .i64 0), (⟨d1, j * 5 + 4, none⟩, .int .i64 (cv l X)), (⟨n1, j * 2, none⟩, .int .i64 (qv l X)), (⟨n1, j * 2 + 1, none⟩, .int .u64 (rv l X))]
/-- where a charge begins -/
def Chk.base (k : Chk) (dl : Int) : Nat := if cv k.l k.A < dl - k.late then (dl - k.late).toNat * k.l else k.A
theorem Chk.nx_base (k : Chk) (c : Nat) (dl : Int) : k.nx c true dl = k.base dl + c * k.p := rfl
theorem row3t {D : Dat} {C : Nat → Chk} {k cn gb d1 n1 j : Nat} {z dl : Int} {w1 w2 W : World} {A0 A2 A4 A5 A6 : Addr} (h : E5 D C k cn gb d1 n1 z true dl w1) (hX : Below w1.heap.size w1 w2) (hj : j < k)
    (m0 : w1.cell? A0 = some (.int .u64 (D.L j))) (m2 : w1.cell? A2 = some (.int .i64 (D.B j))) (m4 : w1.cell? A4 = some (.int .i64 (D.NS j))) (m5 : w1.cell? A5 = some (.int .u64 (D.FR j))) (m6 : w1.cell? A6 = some (.int .u64 (D.LT j))) (hb : Below w2.heap.size w2 W) :
    HA w2 (L3t A0 A2 A4 A5 A6 gb d1 n1 j (C j).l (C j).p (C j).b (C j).A (C j).g ((C j).base dl + cn * (C j).p) (C j).late) W := by
  have D1 := h.dec j hj
  have N1 := h.nxt j hj
  unfold Chk.Dec at D1
  unfold Chk.Nxt at N1
  rw [Chk.nx_base] at D1 N1
  have kc := fun (A : Addr) (v : Value) (hh : w1.cell? A = some v) => (hX.cell (p := A) (World.block_lt_of_cell? w1 _ hh)).trans hh
  rw [← h.b j hj] at m2
  rw [← h.q j hj] at m4
  rw [← h.r j hj] at m5
  rw [← h.l j hj] at m0
  rw [← h.late j hj] at m6
  have e : HA w2 (L3t A0 A2 A4 A5 A6 gb d1 n1 j (C j).l (C j).p (C j).b (C j).A (C j).g ((C j).base dl + cn * (C j).p) (C j).late) w2 :=
    ⟨kc _ _ m0, kc _ _ m2, kc _ _ m4, kc _ _ m5, kc _ _ m6, kc _ _ (h.ptr j hj), kc _ _ D1.c0, kc _ _ D1.c1, kc _ _ D1.c2, kc _ _ D1.c3, kc _ _ D1.c4, kc _ _ N1.c0, kc _ _ N1.c1, Below.refl _ _⟩
  exact e.call hb
/-- the two first cells are stored anew -/
theorem HA.set2 {W0 W : World} {L : List (Addr × Value)} {rb : Nat} {u v : Value} (h : HA W0 ((⟨rb, 0, none⟩, u) :: (⟨rb, 1, none⟩, v) :: L) W) (hL : ∀ x ∈ L, x.1.block ≠ rb) (hq : W0.heap.size ≤ rb) (u' v' : Value) : HA W0 ((⟨rb, 0, none⟩, u') :: (⟨rb, 1, none⟩, v') :: L) ((W.setCell ⟨rb, 0, none⟩ u').setCell ⟨rb, 1, none⟩ v') := by
  obtain ⟨h0, h1, h2⟩ := h
  have ps := pair_set W rb u v u' v' h0 h1
  exact ⟨ps.1, ps.2, HA.own2 h2 rb hL hq u' v'⟩
/-- a pair that stands in a new block -/
theorem HA.pair {W0 W : World} {L : List (Addr × Value)} {rb : Nat} (h : HA W0 L W) {x0 x1 : Value} (h0 : W.cell? ⟨rb, 0, none⟩ = some x0) (h1 : W.cell? ⟨rb, 1, none⟩ = some x1) (hL : ∀ x ∈ L, x.1.block ≠ rb) (hq : W0.heap.size ≤ rb) (u v : Value) : HA W0 ((⟨rb, 0, none⟩, u) :: (⟨rb, 1, none⟩, v) :: L) ((W.setCell ⟨rb, 0, none⟩ u).setCell ⟨rb, 1, none⟩ v) := by
  have ps := pair_set W rb x0 x1 u v h0 h1
  exact ⟨ps.1, ps.2, HA.own2 h rb hL hq u v⟩
theorem HA.tail2 {W0 W : World} {L : List (Addr × Value)} {x y : Addr × Value} (h : HA W0 (x :: y :: L) W) : HA W0 L W := h.2.2
/-- the pair that was made ahead of the calls -/
theorem made_pair {W W' : World} {x0 x1 : Value} (hb : Below (W.alloc (.cells #[x0, x1] 38)).heap.size (W.alloc (.cells #[x0, x1] 38)) W') : W'.cell? ⟨W.heap.size, 0, none⟩ = some x0 ∧ W'.cell? ⟨W.heap.size, 1, none⟩ = some x1 ∧ (∀ o, W'.frozen? ⟨W.heap.size, o, none⟩ = false) ∧ W.heap.size < W'.heap.size := by
  have nc := new_cell0 W #[x0, x1] 38
  have hs := hb.size
  simp at hs
  refine ⟨?_, ?_, fun o => ?_, by omega⟩
  · rw [hb.cell (p := ⟨W.heap.size, 0, none⟩) (by show W.heap.size < _; simp), nc 0]; rfl
  · rw [hb.cell (p := ⟨W.heap.size, 1, none⟩) (by show W.heap.size < _; simp), nc 1]; rfl
  · rw [hb.frozen (p := ⟨W.heap.size, o, none⟩) (by show W.heap.size < _; simp)]; exact World.frozen?_alloc_new W _ 38 o
theorem made_pair2 {W wa wb : World} {x0 x1 : Value} (hba : Below (W.alloc (.cells #[x0, x1] 38)).drew.heap.size (W.alloc (.cells #[x0, x1] 38)).drew wa) (hbb : Below wa.heap.size wa wb) : wb.cell? ⟨W.heap.size, 0, none⟩ = some x0 ∧ wb.cell? ⟨W.heap.size, 1, none⟩ = some x1 ∧ (∀ o, wb.frozen? ⟨W.heap.size, o, none⟩ = false) ∧ W.heap.size < wb.heap.size := by
  have nc := new_cell W #[x0, x1] 38
  have hs := hba.size
  have hs2 := hbb.size
  simp at hs
  refine ⟨?_, ?_, fun o => ?_, by omega⟩
  · rw [hbb.cell (p := ⟨W.heap.size, 0, none⟩) (by show W.heap.size < _; omega), hba.cell (p := ⟨W.heap.size, 0, none⟩) (by show W.heap.size < _; simp), nc 0]; rfl
  · rw [hbb.cell (p := ⟨W.heap.size, 1, none⟩) (by show W.heap.size < _; omega), hba.cell (p := ⟨W.heap.size, 1, none⟩) (by show W.heap.size < _; simp), nc 1]; rfl
  · rw [hbb.frozen (p := ⟨W.heap.size, o, none⟩) (by show W.heap.size < _; omega), hba.frozen (p := ⟨W.heap.size, o, none⟩) (by show W.heap.size < _; simp)]; exact World.frozen?_alloc_new W _ 38 o
end Go.Proofs.Qxb6612665a.W
