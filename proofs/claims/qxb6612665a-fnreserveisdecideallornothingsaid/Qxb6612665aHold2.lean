import Derived.Test.Qxb6612665aPlain
namespace Go.Proofs.Qxb6612665a.W
open Go.RowKit
set_option linter.unusedVariables false

/-- THE LISTED CELLS (at addresses), and nothing of W0 has turned -/
@[reducible] def HA (W0 : World) : List (Addr × Value) → World → Prop
  | [], W => Below W0.heap.size W0 W
  | x :: L, W => W.cell? x.1 = some x.2 ∧ HA W0 L W
theorem HA.map {W0 W W' : World} (hR : Below W0.heap.size W0 W → Below W0.heap.size W0 W') : ∀ {L : List (Addr × Value)} (hc : ∀ x ∈ L, W.cell? x.1 = some x.2 → W'.cell? x.1 = some x.2), HA W0 L W → HA W0 L W'
  | [], _, h => hR h
  | x :: L, hc, h => ⟨hc x (by simp) h.1, HA.map hR (fun y hy => hc y (by simp [hy])) h.2⟩
theorem HA.below {W0 W : World} : ∀ {L : List (Addr × Value)}, HA W0 L W → Below W0.heap.size W0 W
  | [], h => h
  | _ :: _, h => HA.below h.2
theorem HA.drew {W0 W : World} {L : List (Addr × Value)} (h : HA W0 L W) : HA W0 L W.drew := HA.map (W := W) (W' := W.drew) (fun h => h.drew) (fun x _ h => h) h
theorem HA.call {W0 W W' : World} {L : List (Addr × Value)} (h : HA W0 L W) (hb : Below W.heap.size W W') : HA W0 L W' :=
  HA.map (fun h => below_call h hb h.size) (fun x _ h => by rw [hb.cell (World.block_lt_of_cell? W _ h)]; exact h) h
theorem HA.alloc {W0 W : World} {L : List (Addr × Value)} (h : HA W0 L W) (ob : Obj) : HA W0 L (W.alloc ob) := h.call (below1 W ob)
/-- a store into a new pair -/
theorem HA.own2 {W0 W : World} {L : List (Addr × Value)} (h : HA W0 L W) (rb : Nat) (hL : ∀ x ∈ L, x.1.block ≠ rb) (hq : W0.heap.size ≤ rb) (u v : Value) : HA W0 L ((W.setCell ⟨rb, 0, none⟩ u).setCell ⟨rb, 1, none⟩ v) :=
  HA.map (fun h => (h.setCell (p := ⟨rb, 0, none⟩) hq u).setCell (p := ⟨rb, 1, none⟩) hq v) (fun x hx h => by
    have k := hL x hx
    rw [World.cell?_setCell_other _ _ _ _ (by intro e; rw [← e] at k; exact k rfl), World.cell?_setCell_other _ _ _ _ (by intro e; rw [← e] at k; exact k rfl)]; exact h) h
/-- zzKeyCharged, at Reserve's own answers -/
theorem charged_any (k : Chk) (c : Nat) (longest dl : Int) (ad : Bool) (ns fr : Int) (hk : k.Good c) (hq : qv k.l k.A = ns) (hr : rv k.l k.A = fr) (w : World) :
    Calls Try.prog 21 #[.bool ad, .bool (k.dAl c longest ad), .agg #[.int .i64 ns, .int .u64 fr], .agg #[.int .i64 (qv k.l (k.nx c ad dl)), .int .u64 (rv k.l (k.nx c ad dl))]] w fun e w' => e = .returned (.bool true) ∧ Below w.heap.size w w' := by
  subst hq hr
  cases ad
  · exact charged_no _ _ _ w
  · exact charged_yes k.l k.A (k.nx c true dl) hk.fit.l0 (nx_later hk) w
theorem NC.lt {nb d : Nat} {q r : Int} {w : World} (h : NC nb d q r w) : nb < w.heap.size := World.block_lt_of_cell? w _ h.c0
theorem NC.call {nb d : Nat} {q r : Int} {w W : World} (h : NC nb d q r w) (hb : Below w.heap.size w W) : NC nb d q r W := h.same fun o _ _ => hb.cell (p := ⟨nb, o, none⟩) h.lt
/-- THE CHECKS, BUILT: what the law's second half leans on -/
structure Set6 (D : Dat) (C : Nat → Chk) (n cn tb : Nat) (lg : Int) (W : World) : Prop where
  good : ∀ i, i < n → (C i).Good cn
  ins : ∀ i, i < n → (C i).In tb (i * 5) W
  sum : ∀ i, i < n → lg.toNat * (C i).l + ((C i).b + 1) * (C i).p ≤ 9223372036854775807 * (C i).l
  q : ∀ i, i < n → qv (C i).l (C i).A = D.NS i
  r : ∀ i, i < n → rv (C i).l (C i).A = D.FR i
  b : ∀ i, i < n → ((C i).b : Int) = D.B i
  l : ∀ i, i < n → ((C i).l : Int) = D.L i
  late : ∀ i, i < n → (C i).late = D.LT i
  qu : ∀ i, i < n → (C i).qu = D.Q i
theorem set6 {D : Dat} {G : Nat → Nat} {n cn tb : Nat} {lg : Int} {w W : World} (hc : 1 ≤ cn) (hB : BL D G n tb n w W) (hF : ∀ i, i < n → FitAt lg cn (D.L i) (D.P i) (D.B i) (D.NS i) (D.FR i)) (hwf : Wfs D.L D.P D.B D.NS D.FR n) (hlt : ∀ i, i < n → 0 ≤ D.LT i ∧ D.LT i < 18446744073709551616) :
    ∃ C, Set6 D C n cn tb lg W := by
  refine ⟨fun i => D.chk i (G i), fun i hi => D.good i (G i) lg cn hc (hF i hi) (hwf.ns i hi).2 (hwf.fr i hi).1 (hlt i hi), fun i hi => (hB.ins i hi).1, fun i hi => (hF i hi).sum, fun i hi => ?_, fun i hi => ?_, fun i hi => ?_, fun i hi => ?_, fun _ _ => rfl, fun _ _ => rfl⟩
  · exact (chk_A (D.NS i) (D.FR i) (D.L i) (hF i hi).l0 (hF i hi).ns0 (hwf.fr i hi).1 (hF i hi).frl).1
  · exact (chk_A (D.NS i) (D.FR i) (D.L i) (hF i hi).l0 (hF i hi).ns0 (hwf.fr i hi).1 (hF i hi).frl).2
  · have := (hF i hi).cb; exact Int.toNat_of_nonneg (by omega)
  · have := (hF i hi).l0; exact Int.toNat_of_nonneg (by omega)
theorem Set6.later {D : Dat} {C : Nat → Chk} {n cn tb : Nat} {lg : Int} {W W' : World} (h : Set6 D C n cn tb lg W) (hb : Below W.heap.size W W') : Set6 D C n cn tb lg W' := ⟨h.good, fun i hi => (h.ins i hi).later hb, h.sum, h.q, h.r, h.b, h.l, h.late, h.qu⟩
theorem lgv_nn (x : Int) : 0 ≤ lgv x := by unfold lgv; split <;> omega
theorem lgv_ge (x : Int) : x ≤ lgv x := by unfold lgv; split <;> omega
end Go.Proofs.Qxb6612665a.W
