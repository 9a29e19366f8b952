import Derived.Test.Qxb6612665aFiveB
import Derived.BigQuiet
namespace Go.Proofs.Qxb6612665a.W
open Go.RowKit
set_option linter.unusedVariables false

/-- what the last loop reads of a check that is not admitted -/
@[reducible] def L3f (A2 A4 A5 : Addr) (d1 n1 s j : Nat) (b q r : Int) (al1 : Bool) (rm rt1 rs : Int) (al0 : Bool) (rt0 : Int) (ok aw : Bool) (af : Int) : List (Addr × Value) := [(A2, .int .i64 b), (A4, .int .i64 q), (A5, .int .u64 r), (⟨d1, j * 5, none⟩, .bool al1), (⟨d1, j * 5 + 1, none⟩, .int .i64 b), (⟨d1, j * 5 + 2, none⟩, .int .i64 rm), (⟨d1, j * 5 + 3, none⟩, .int .i64 rt1), (⟨d1, j * 5 + 4, none⟩, .int .i64 rs), (⟨n1, j * 2, none⟩, .int .i64 q), (⟨n1, j * 2 + 1, none⟩, .int .u64 r), (⟨s, j * 5, none⟩, .bool al0), (⟨s, j * 5 + 1, none⟩, .int .i64 b), (⟨s, j * 5 + 2, none⟩, .int .i64 rm), (⟨s, j * 5 + 3, none⟩, .int .i64 rt0), (⟨s, j * 5 + 4, none⟩, .int .i64 rs), (⟨s + 1, j, none⟩, .bool ok), (⟨s + 2, j, none⟩, .bool aw), (⟨s + 3, j, none⟩, .int .i64 af)]
theorem row3f {D : Dat} {C : Nat → Chk} {k cn gb d1 n1 j : Nat} {z dl : Int} {w1 w2 W : World} {A2 A4 A5 : Addr} (h : E5 D C k cn gb d1 n1 z false dl w1) (hX : RD C cn k w1.heap.size z k k k k w1 w2) (hj : j < k)
    (m2 : w1.cell? A2 = some (.int .i64 (D.B j))) (m4 : w1.cell? A4 = some (.int .i64 (D.NS j))) (m5 : w1.cell? A5 = some (.int .u64 (D.FR j))) (hb : Below w2.heap.size w2 W) :
    ∃ (b q r : Int) (al1 : Bool) (rm rt1 rs : Int) (al0 : Bool) (rt0 : Int) (ok aw : Bool) (af : Int), HA w2 (L3f A2 A4 A5 d1 n1 w1.heap.size j b q r al1 rm rt1 rs al0 rt0 ok aw af) W ∧ (ok = false → al1 = al0 ∧ rt1 = rt0) ∧ (ok = true → al1 = aw ∧ rt1 = (if aw = true then 0 else af)) := by
  have D1 := h.dec j hj
  have N1 := h.nxt j hj
  have D0 := hX.ds j hj
  unfold Chk.Dec at D1
  unfold Chk.Nxt at N1
  have e1 : (C j).nx cn false dl = (C j).A := rfl
  rw [e1] at D1 N1
  have kc := fun (A : Addr) (v : Value) (hh : w1.cell? A = some v) => (hX.below.cell (p := A) (World.block_lt_of_cell? w1 _ hh)).trans hh
  rw [← h.b j hj] at m2
  rw [← h.q j hj] at m4
  rw [← h.r j hj] at m5
  refine ⟨(C j).b, qv (C j).l (C j).A, rv (C j).l (C j).A, (C j).dAl cn z false, remv (C j).p (C j).b (C j).A, (C j).dRetry cn z false, cv (C j).l (C j).A, !ltB (room (C j).p (C j).b cn) (C j).A, retryv (C j).l (C j).p (C j).b cn (C j).A, (C j).ok cn, (C j).alw cn z, (C j).aft cn, ?_, ?_, ?_⟩
  · have e : HA w2 (L3f A2 A4 A5 d1 n1 w1.heap.size j (C j).b (qv (C j).l (C j).A) (rv (C j).l (C j).A) ((C j).dAl cn z false) (remv (C j).p (C j).b (C j).A) ((C j).dRetry cn z false) (cv (C j).l (C j).A) (!ltB (room (C j).p (C j).b cn) (C j).A) (retryv (C j).l (C j).p (C j).b cn (C j).A) ((C j).ok cn) ((C j).alw cn z) ((C j).aft cn)) w2 :=
      ⟨kc _ _ m2, kc _ _ m4, kc _ _ m5, kc _ _ D1.c0, kc _ _ D1.c1, kc _ _ D1.c2, kc _ _ D1.c3, kc _ _ D1.c4, kc _ _ N1.c0, kc _ _ N1.c1, D0.c0, D0.c1, D0.c2, D0.c3, D0.c4, hX.oks j hj, hX.als j hj, hX.afs j hj, Below.refl _ _⟩
    exact e.call hb
  · intro ho
    unfold Chk.dAl Chk.dRetry
    rw [ho]
    exact ⟨rfl, rfl⟩
  · intro ho
    unfold Chk.dAl Chk.dRetry
    rw [ho]
    exact ⟨rfl, rfl⟩

end Go.Proofs.Qxb6612665a.W
