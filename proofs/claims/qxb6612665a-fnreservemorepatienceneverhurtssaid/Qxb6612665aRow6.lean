import Derived.Test.Qxb6612665aHold2
import Derived.BigQuiet
namespace Go.Proofs.Qxb6612665a.W
open Go.RowKit
set_option linter.unusedVariables false

/-- a check's two decisions and two next times, and the input's cells -/
@[reducible] def L6 (A2 A4 A5 : Addr) (d1 n1 d2 n2 j : Nat) (b ns fr : Int) (al1 : Bool) (rm1 rt1 rs1 q1 r1 : Int) (al2 : Bool) (rm2 rt2 rs2 q2 r2 : Int) : List (Addr × Value) :=
  [(A2, .int .i64 b), (A4, .int .i64 ns), (A5, .int .u64 fr),
   (⟨d1, j * 5, none⟩, .bool al1), (⟨d1, j * 5 + 1, none⟩, .int .i64 b), (⟨d1, j * 5 + 2, none⟩, .int .i64 rm1), (⟨d1, j * 5 + 3, none⟩, .int .i64 rt1), (⟨d1, j * 5 + 4, none⟩, .int .i64 rs1),
   (⟨n1, j * 2, none⟩, .int .i64 q1), (⟨n1, j * 2 + 1, none⟩, .int .u64 r1),
   (⟨d2, j * 5, none⟩, .bool al2), (⟨d2, j * 5 + 1, none⟩, .int .i64 b), (⟨d2, j * 5 + 2, none⟩, .int .i64 rm2), (⟨d2, j * 5 + 3, none⟩, .int .i64 rt2), (⟨d2, j * 5 + 4, none⟩, .int .i64 rs2),
   (⟨n2, j * 2, none⟩, .int .i64 q2), (⟨n2, j * 2 + 1, none⟩, .int .u64 r2)]
theorem row6 {D : Dat} {C : Nat → Chk} {k cn tb j d1 n1 d2 n2 : Nat} {lg s l dl : Int} {ad1 ad2 : Bool} {w2 W W' : World} {A2 A4 A5 : Addr} (HS : Set6 D C k cn tb lg W') (hj : j < k) (h21 : ad1 = true → ad2 = true)
    (D1 : (C j).Dec cn s ad1 dl d1 (j * 5) w2) (N1 : (C j).Nxt cn ad1 dl n1 (j * 2) w2) (D2 : (C j).Dec cn l ad2 dl d2 (j * 5) w2) (N2 : (C j).Nxt cn ad2 dl n2 (j * 2) w2)
    (m2 : w2.cell? A2 = some (.int .i64 (D.B j))) (m4 : w2.cell? A4 = some (.int .i64 (D.NS j))) (m5 : w2.cell? A5 = some (.int .u64 (D.FR j))) (hb : Below w2.heap.size w2 W) :
    ∃ (al1 : Bool) (rm1 rt1 rs1 q1 r1 : Int) (al2 : Bool) (rm2 rt2 rs2 q2 r2 : Int), HA w2 (L6 A2 A4 A5 d1 n1 d2 n2 j (D.B j) (D.NS j) (D.FR j) al1 rm1 rt1 rs1 q1 r1 al2 rm2 rt2 rs2 q2 r2) W ∧
      (∀ w, Calls Try.prog 21 #[.bool ad1, .bool al1, .agg #[.int .i64 (D.NS j), .int .u64 (D.FR j)], .agg #[.int .i64 q1, .int .u64 r1]] w fun e w' => e = .returned (.bool true) ∧ Below w.heap.size w w') ∧
      (∀ w, Calls Try.prog 21 #[.bool ad2, .bool al2, .agg #[.int .i64 (D.NS j), .int .u64 (D.FR j)], .agg #[.int .i64 q2, .int .u64 r2]] w fun e w' => e = .returned (.bool true) ∧ Below w.heap.size w w') ∧
      (ad1 = true → al1 = al2 ∧ rm1 = rm2 ∧ rt1 = rt2 ∧ rs1 = rs2 ∧ q1 = q2 ∧ r1 = r2) := by
  unfold Chk.Dec at D1 D2
  unfold Chk.Nxt at N1 N2
  rw [HS.b j hj] at D1 D2
  refine ⟨_, _, _, _, _, _, _, _, _, _, _, _, (?_ : HA w2 (L6 A2 A4 A5 d1 n1 d2 n2 j (D.B j) (D.NS j) (D.FR j) ((C j).dAl cn s ad1) (remv (C j).p (C j).b ((C j).nx cn ad1 dl)) ((C j).dRetry cn s ad1) (cv (C j).l ((C j).nx cn ad1 dl)) (qv (C j).l ((C j).nx cn ad1 dl)) (rv (C j).l ((C j).nx cn ad1 dl)) ((C j).dAl cn l ad2) (remv (C j).p (C j).b ((C j).nx cn ad2 dl)) ((C j).dRetry cn l ad2) (cv (C j).l ((C j).nx cn ad2 dl)) (qv (C j).l ((C j).nx cn ad2 dl)) (rv (C j).l ((C j).nx cn ad2 dl))) W), ?_, ?_, ?_⟩
  · have e : HA w2 (L6 A2 A4 A5 d1 n1 d2 n2 j (D.B j) (D.NS j) (D.FR j) ((C j).dAl cn s ad1) (remv (C j).p (C j).b ((C j).nx cn ad1 dl)) ((C j).dRetry cn s ad1) (cv (C j).l ((C j).nx cn ad1 dl)) (qv (C j).l ((C j).nx cn ad1 dl)) (rv (C j).l ((C j).nx cn ad1 dl)) ((C j).dAl cn l ad2) (remv (C j).p (C j).b ((C j).nx cn ad2 dl)) ((C j).dRetry cn l ad2) (cv (C j).l ((C j).nx cn ad2 dl)) (qv (C j).l ((C j).nx cn ad2 dl)) (rv (C j).l ((C j).nx cn ad2 dl))) w2 :=
      ⟨m2, m4, m5, D1.c0, D1.c1, D1.c2, D1.c3, D1.c4, N1.c0, N1.c1, D2.c0, D2.c1, D2.c2, D2.c3, D2.c4, N2.c0, N2.c1, Below.refl _ _⟩
    exact e.call hb
  · exact fun w => charged_any (C j) cn s dl ad1 _ _ (HS.good j hj) (HS.q j hj) (HS.r j hj) w
  · exact fun w => charged_any (C j) cn l dl ad2 _ _ (HS.good j hj) (HS.q j hj) (HS.r j hj) w
  · intro h
    rw [h21 h, h]
    exact ⟨rfl, rfl, rfl, rfl, rfl, rfl⟩
/-- the box: a new pair -/
theorem HA.box {W0 W : World} {L : List (Addr × Value)} (h : HA W0 L W) (u v : Value) (t : TypeId) : HA W0 ((⟨W.heap.size, 0, none⟩, u) :: (⟨W.heap.size, 1, none⟩, v) :: L) (W.alloc (.cells #[u, v] t)) :=
  ⟨new_cell0 W #[u, v] t 0, new_cell0 W #[u, v] t 1, h.alloc _⟩
/-- no listed cell lies in the next block -/
theorem HA.off {W0 W : World} : ∀ {L : List (Addr × Value)}, HA W0 L W → ∀ x ∈ L, x.1.block ≠ W.heap.size
  | [], _, x, hx => by cases hx
  | y :: L, h, x, hx => by
    rcases List.mem_cons.1 hx with rfl | hx
    · exact Nat.ne_of_lt (World.block_lt_of_cell? W _ h.1)
    · exact HA.off h.2 x hx
theorem HA.drewN {W0 W : World} {L : List (Addr × Value)} (h : HA W0 L W) (n : Nat) : HA W0 L (W.drewN n) := HA.map (W := W) (W' := W.drewN n) (fun h => below_drewN h n) (fun x _ h => h) h
end Go.Proofs.Qxb6612665a.W
