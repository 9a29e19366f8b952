/-
  THE PROOF OF 'Rows.FnWarningsGiveEachWarningInOrderSaid': the walk (Qxb6612610aOrder.lean) and the row's step, typed after the guide's frame for a law over slices ('Below').
-/
import Derived.Test.Qxb6612610aRows
import Derived.WalkKit
import Derived.ProofKit
import Derived.OpenShut
import Derived.ShutString
import Derived.ChangeOld
import Derived.Below
import Derived.Test.Qxb6612610aOrder
import Derived.Test.Qxb6612610aOpen3
namespace Go.Proofs.Qxb6612610a.fnWarningsGiveEachWarningInOrder
open Go.ChangeShapes Go.WideShapes Go.ChangeAt Go.RowKit
open Go.ChangeMaps (open_string shut_string)
set_option linter.unusedVariables false

theorem own : ownKnob Try.prog.godebug = none := by kernel_rfl
theorem laidOut : laidOutB Try.prog = true := by kernel_rfl

theorem walk (a0 : ByteArray) (a1 : Option Addr) (len1 cap1 : Nat) (w : World) (w0 : a0.size ≤ maxLen) (w1 : W.IsSteps3 w a1 len1) :
    Calls Try.prog 4 #[.string a0, .slice a1 len1 cap1] w fun e w' => e = .returned (.bool true) ∧ Below w.heap.size w w' := by
  unfold maxLen at w0
  rcases w1 with rfl | ⟨b, off, ln, col, he, rfl, hl, hcs, c0, c1, c2⟩
  · exact W.order_empty a0 a1 cap1 w w0
  · unfold maxLen at hl hcs
    by_cases hb : a0.size ≤ 1048576 ∧ len1 ≤ 32768
    · exact W.order_fit a0 b off len1 cap1 ln col he w hb.1 hb.2 hcs c0 c1 c2
    · exact W.order_big a0 b off len1 cap1 col w w0 hl hcs c1 hb

set_option maxRecDepth 100000 in
theorem lifted (os : Os) (started : os.Started) (H : Type) (enc : TypeId × Value → H) :
    ReturnsInHanded {} Try.checked os 4 .any (Rows.fnWarningsGiveEachWarningInOrderSpec.pre6 enc Try.prog Try.f4 Rows.fnWarningsGiveEachWarningInOrderRow.domain false) (Rows.fnWarningsGiveEachWarningInOrderSpec.post enc Try.prog Try.f4 false true false false) := by
  refine returnsInHanded_of_change (C := Try.checked) own started (by kernel_rfl) Try.func4
    (ChangeSpec.witness6 (enc := enc) (C := Try.checked) false ⟨#[], #[.string ByteArray.empty, .slice none 0 0], []⟩ 8 (by kernel_rfl) (by kernel_rfl) (by kernel_rfl) (by kernel_rfl)) ?_
  intro W base args ds gs before hval0 hW hcnd _
  have hval : ∀ (j : Nat) t v, Try.f4.params[j]? = some t → args[j]? = some v → Value.okWide Try.prog W .any base t v := hval0
  have hW' := hW
  obtain ⟨p, q, hA0, hV, rfl, hfz, hnd⟩ := hW
  have hA : DataW.TrodAll enc Try.prog W 0 (fun _ => true) true Try.f4.params.toList args.toList ds p := hA0
  rw [Try.params4] at hA hval
  obtain ⟨v0, vs0, d0, ds0, p0, q0, hargs, rfl, rfl, h0, r0⟩ := trodAll_cons hA
  obtain ⟨v1, vs1, d1, ds1, p1, q1, rfl, rfl, rfl, h1, r1⟩ := trodAll_cons r0
  obtain ⟨rfl, rfl, rfl⟩ := trodAll_nil r1
  obtain rfl : args = #[v0, v1] := by cases args; simp_all
  obtain ⟨rfl, rfl⟩ := trodVars_none hV
  obtain ⟨a0, rfl, rfl, rfl, w0⟩ := open_string Try.underlying9 (hval 0 9 v0 rfl rfl) h0
  obtain ⟨a1, len1, cap1, rfl⟩ := okWide_slice Try.underlying35 (hval 1 35 v1 rfl rfl)
  have k1 := h1
  have lt1 : ∀ x ∈ p1, x.block < W.heap.size := by obtain ⟨m, hm⟩ := k1; exact DataW.trod_lt m _ _ _ hm
  have w1 : _root_.Go.Proofs.Qxb6612610a.W.IsSteps3 W a1 len1 := by
    obtain ⟨fuel, hf⟩ := h1
    exact _root_.Go.Proofs.Qxb6612610a.W.open_steps3 (by simpa [Value.cells] using hf)
  clear hA0 hval0
  refine (walk a0 a1 len1 cap1 W w0 w1).mono fun e W' ⟨he, bel⟩ => ?_
  subst he
  exact ⟨_, rfl, _, _, _, [], _, [], hW', trodAll_mk1 (shut_bool Try.underlying4 _), (trodAll_cons_mk (shut_string Try.underlying9 w0) (trodAll_cons_mk (Below.trod laidOut (by kernel_rfl) (of_decide_eq_true (by kernel_rfl)) k1 bel lt1) trodAll_mk0)), rfl, bel.frame _, fun h => by cases h⟩

theorem over : Rows.fnWarningsGiveEachWarningInOrderRow.holds Try.pinned (OpenSpec.ofChange Rows.fnWarningsGiveEachWarningInOrderSpec) :=
  OpenClaim.holds_of_wide 4 Try.f4 rfl rfl rfl rfl rfl rfl rfl ⟨rfl, rfl, rfl, rfl, rfl⟩ rfl rfl rfl rfl rfl (by kernel_rfl) Try.func4 (by kernel_rfl)
    (of_decide_eq_true (by kernel_rfl)) (by unfold Func.isWrapper; first | (rw [if_pos (by decide +kernel)]; kernel_rfl) | (rw [if_neg (by decide +kernel)]; exact ⟨rfl, rfl⟩))
    (fun os started H enc _ => lifted os started H enc)

/-- THE STATEMENT -/
theorem proved : Rows.FnWarningsGiveEachWarningInOrderSaid := over
#print axioms proved
end Go.Proofs.Qxb6612610a.fnWarningsGiveEachWarningInOrder
