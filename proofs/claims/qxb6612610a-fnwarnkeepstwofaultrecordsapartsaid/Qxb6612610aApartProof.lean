/-
  THE PROOF OF 'Rows.FnWarnKeepsTwoFaultRecordsApartSaid': the walk (Qxb6612610aApart.lean) and the row's step, typed after the guide's frame for a law over slices ('Below').
-/
import Derived.Test.Qxb6612610aRows
import Derived.WalkKit
import Derived.ProofKit
import Derived.OpenShut
import Derived.ShutString
import Derived.ChangeOld
import Derived.Below
import Derived.Test.Qxb6612610aApart
import Derived.Test.Qxb6612610aOpen4
namespace Go.Proofs.Qxb6612610a.fnWarnKeepsTwoFaultRecordsApart
open Go.ChangeShapes Go.WideShapes Go.ChangeAt Go.RowKit
open Go.ChangeMaps (open_string shut_string)
set_option linter.unusedVariables false

theorem own : ownKnob Try.prog.godebug = none := by kernel_rfl
theorem laidOut : laidOutB Try.prog = true := by kernel_rfl

theorem walk (a0 a1 : ByteArray) (a2 : Option Addr) (len2 cap2 : Nat) (w : World) (w0 : a0.size ≤ maxLen) (w1 : a1.size ≤ maxLen) (w2 : W.IsSteps4 w a2 len2) :
    Calls Try.prog 3 #[.string a0, .string a1, .slice a2 len2 cap2] w fun e w' => e = .returned (.bool true) ∧ Below w.heap.size w w' := by
  unfold maxLen at w0 w1
  rcases w2 with rfl | ⟨b, off, ln, col, he, sec, rfl, hl, hcs, c0, c1, c2, c3⟩
  · exact W.apart_empty a0 a1 a2 cap2 w w0 w1
  · unfold maxLen at hl hcs
    by_cases hb : a0.size ≤ 1048576 ∧ a1.size ≤ 1048576 ∧ len2 ≤ 32768
    · exact W.apart_fit a0 a1 b off len2 cap2 ln col he sec w hb.1 hb.2.1 hb.2.2 hcs c0 c1 c2 c3
    · exact W.apart_big a0 a1 b off len2 cap2 col w w0 w1 hl hcs c1 hb

set_option maxRecDepth 100000 in
theorem lifted (os : Os) (started : os.Started) (H : Type) (enc : TypeId × Value → H) :
    ReturnsInHanded {} Try.checked os 3 .any (Rows.fnWarnKeepsTwoFaultRecordsApartSpec.pre6 enc Try.prog Try.f3 Rows.fnWarnKeepsTwoFaultRecordsApartRow.domain false) (Rows.fnWarnKeepsTwoFaultRecordsApartSpec.post enc Try.prog Try.f3 false true false false) := by
  refine returnsInHanded_of_change (C := Try.checked) own started (by kernel_rfl) Try.func3
    (ChangeSpec.witness6 (enc := enc) (C := Try.checked) false ⟨#[], #[.string ByteArray.empty, .string ByteArray.empty, .slice none 0 0], []⟩ 8 (by kernel_rfl) (by kernel_rfl) (by kernel_rfl) (by kernel_rfl)) ?_
  intro W base args ds gs before hval0 hW hcnd _
  have hval : ∀ (j : Nat) t v, Try.f3.params[j]? = some t → args[j]? = some v → Value.okWide Try.prog W .any base t v := hval0
  have hW' := hW
  obtain ⟨p, q, hA0, hV, rfl, hfz, hnd⟩ := hW
  have hA : DataW.TrodAll enc Try.prog W 0 (fun _ => true) true Try.f3.params.toList args.toList ds p := hA0
  rw [Try.params3] at hA hval
  obtain ⟨v0, vs0, d0, ds0, p0, q0, hargs, rfl, rfl, h0, r0⟩ := trodAll_cons hA
  obtain ⟨v1, vs1, d1, ds1, p1, q1, rfl, rfl, rfl, h1, r1⟩ := trodAll_cons r0
  obtain ⟨v2, vs2, d2, ds2, p2, q2, rfl, rfl, rfl, h2, r2⟩ := trodAll_cons r1
  obtain ⟨rfl, rfl, rfl⟩ := trodAll_nil r2
  obtain rfl : args = #[v0, v1, v2] := by cases args; simp_all
  obtain ⟨rfl, rfl⟩ := trodVars_none hV
  obtain ⟨a0, rfl, rfl, rfl, w0⟩ := open_string Try.underlying9 (hval 0 9 v0 rfl rfl) h0
  obtain ⟨a1, rfl, rfl, rfl, w1⟩ := open_string Try.underlying9 (hval 1 9 v1 rfl rfl) h1
  obtain ⟨a2, len2, cap2, rfl⟩ := okWide_slice Try.underlying22 (hval 2 22 v2 rfl rfl)
  have k2 := h2
  have lt2 : ∀ x ∈ p2, x.block < W.heap.size := by obtain ⟨m, hm⟩ := k2; exact DataW.trod_lt m _ _ _ hm
  have w2 : _root_.Go.Proofs.Qxb6612610a.W.IsSteps4 W a2 len2 := by
    obtain ⟨fuel, hf⟩ := h2
    exact _root_.Go.Proofs.Qxb6612610a.W.open_steps4 (by simpa [Value.cells] using hf)
  clear hA0 hval0
  refine (walk a0 a1 a2 len2 cap2 W w0 w1 w2).mono fun e W' ⟨he, bel⟩ => ?_
  subst he
  exact ⟨_, rfl, _, _, _, [], _, [], hW', trodAll_mk1 (shut_bool Try.underlying4 _), (trodAll_cons_mk (shut_string Try.underlying9 w0) (trodAll_cons_mk (shut_string Try.underlying9 w1) (trodAll_cons_mk (Below.trod laidOut (by kernel_rfl) (of_decide_eq_true (by kernel_rfl)) k2 bel lt2) trodAll_mk0))), rfl, bel.frame _, fun h => by cases h⟩

theorem over : Rows.fnWarnKeepsTwoFaultRecordsApartRow.holds Try.pinned (OpenSpec.ofChange Rows.fnWarnKeepsTwoFaultRecordsApartSpec) :=
  OpenClaim.holds_of_wide 3 Try.f3 rfl rfl rfl rfl rfl rfl rfl ⟨rfl, rfl, rfl, rfl, rfl⟩ rfl rfl rfl rfl rfl (by kernel_rfl) Try.func3 (by kernel_rfl)
    (of_decide_eq_true (by kernel_rfl)) (by unfold Func.isWrapper; first | (rw [if_pos (by decide +kernel)]; kernel_rfl) | (rw [if_neg (by decide +kernel)]; exact ⟨rfl, rfl⟩))
    (fun os started H enc _ => lifted os started H enc)

/-- THE STATEMENT -/
theorem proved : Rows.FnWarnKeepsTwoFaultRecordsApartSaid := over
#print axioms proved
end Go.Proofs.Qxb6612610a.fnWarnKeepsTwoFaultRecordsApart
