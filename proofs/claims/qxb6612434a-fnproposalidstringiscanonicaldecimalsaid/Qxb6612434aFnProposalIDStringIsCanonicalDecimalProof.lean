/-
  THE SHELL OF A PROOF OF 'Rows.FnProposalIDStringIsCanonicalDecimalSaid' ('example.com/palisade/palisade/zzlaws_pkg_vehicle_b1.FnProposalIDStringIsCanonicalDecimal'), WRITTEN BY PROGRAM (proof-skeleton.mjs) off the guide's own print for that function. Not trusted: Lean checks it.
  The hole (the walk) is filled here.
-/
import Derived.Test.Qxb6612434aRows
import Derived.WalkKit
import Derived.ProofKit
import Derived.OpenShut
import Derived.ShutString
import Derived.Test.Qxb6612434aParts
namespace Go.Proofs.Qxb6612434a.fnProposalIDStringIsCanonicalDecimal
open Go.ChangeShapes Go.WideShapes Go.ChangeAt Go.RowKit
open Go.ChangeMaps (open_string shut_string)
set_option linter.unusedVariables false      -- a walk need not use every 'w<i>' (that an integer argument fits its kind)

theorem own : ownKnob Try.prog.godebug = none := by kernel_rfl

/-! ### STEP 1: THE WALK: the Go text returns true. 'Grown w w'': the world has at most new blocks (Derived/RowKit3.lean). Part the cases AHEAD of 'go_enter' where a test parts the walk; take each callee by a contract of your own. -/
theorem walk (a0 : ByteArray) (a1 : ByteArray) (w0 : a0.size ≤ maxLen) (w1 : a1.size ≤ maxLen) (w : World) :
    Calls Try.prog 3 #[.string a0, .string a1] w fun e w' => e = .returned (.bool true) ∧ Grown w w' := by
  by_cases hsz : a0.size + a1.size ≤ 1048576
  · cases hc0 : W.canB a0.data.toList
    · have HC := W.hide hc0
      clear hc0
      go_enter Try.func3, Try.ntmps3
      go_wp2_with (first | (go_at_call 4; go_in) | fail)
      refine (W.digits_any a0 _ (by omega)).mono ?_
      rintro e w1 ⟨rfl, rfl⟩
      rw [HC.out]
      go_wp2_with fail
      go_ret
      exact ⟨rfl, Grown.refl _⟩
    · have HC := W.hide hc0
      clear hc0
      cases hc1 : W.canB a1.data.toList
      · have HD := W.hide hc1
        clear hc1
        go_enter Try.func3, Try.ntmps3
        go_wp2_with (first | (go_at_call 4; go_in) | fail)
        refine (W.digits_any a0 _ (by omega)).mono ?_
        rintro e w1 ⟨rfl, rfl⟩
        rw [HC.out]
        go_wp2_with fail
        refine (W.digits_any a1 _ (by omega)).mono ?_
        rintro e w1 ⟨rfl, rfl⟩
        rw [HD.out]
        go_wp2_with fail
        go_ret
        exact ⟨rfl, Grown.refl _⟩
      · have HD := W.hide hc1
        clear hc1
        obtain ⟨sa, wa, da, ta⟩ := W.wrote a0 (by omega) HC.out
        obtain ⟨sb, wb, db, tb⟩ := W.wrote a1 (by omega) HD.out
        have ta0 := W.strips_same a0 (by omega) HC.out
        have tb0 := W.strips_same a1 (by omega) HD.out
        go_enter Try.func3, Try.ntmps3
        go_wp2_with (first | (go_at_call 4; go_in) | fail)
        refine (W.digits_any a0 _ (by omega)).mono ?_
        rintro e w1 ⟨rfl, rfl⟩
        rw [HC.out]
        go_wp2_with fail
        refine (W.digits_any a1 _ (by omega)).mono ?_
        rintro e w1 ⟨rfl, rfl⟩
        rw [HD.out]
        go_wp2_with fail
        refine (W.new_any a0 _).mono ?_
        rintro e w1 ⟨rfl, g1⟩
        have G1 := W.hide g1; clear g1
        go_wp2_with fail
        refine (wa _).mono ?_
        rintro e w2 ⟨rfl, g2⟩
        have G2 := W.hide (W.gtrans G1.out g2); clear g2 G1
        go_wp2_with fail
        refine (W.new_any a1 _).mono ?_
        rintro e w3 ⟨rfl, g3⟩
        have G3 := W.hide (W.gtrans G2.out g3); clear g3 G2
        go_wp2_with fail
        refine (wb _).mono ?_
        rintro e w4 ⟨rfl, g4⟩
        have G4 := W.hide (W.gtrans G3.out g4); clear g4 G3
        go_wp2_with fail
        refine (da _).mono ?_
        rintro e w5 ⟨rfl, rfl⟩
        go_wp2_with fail
        refine (db _).mono ?_
        rintro e w5 ⟨rfl, rfl⟩
        go_wp2_with fail
        refine (W.sameNumber_any _ _ _ ta ta0 _).mono ?_
        rintro e w5 ⟨rfl, rfl⟩
        go_wp2_with fail
        refine (W.sameNumber_any _ _ _ tb tb0 _).mono ?_
        rintro e w5 ⟨rfl, rfl⟩
        go_wp2_with fail
        refine (W.numCmp_any _ _ a0 a1 (by omega) (by omega) ta tb _).mono ?_
        rintro e w5 ⟨rfl, g5⟩
        have G5 := W.hide (W.gtrans G4.out g5); clear g5 G4
        go_wp2_with fail
        refine (W.numCmp_any _ _ a0 a1 (by omega) (by omega) ta0 tb0 _).mono ?_
        rintro e w6 ⟨rfl, g6⟩
        have G6 := W.hide (W.gtrans G5.out g6); clear g6 G5
        go_wp2_with fail
        go_ret
        exact ⟨by simp, G6⟩
  · go_enter Try.func3, Try.ntmps3
    go_wp2
    all_goals go_ret
    all_goals exact ⟨rfl, Grown.refl _⟩

/-! ### THE ROW's STEP: WRITTEN OUT: LEAVE IT -/
set_option maxRecDepth 100000 in
theorem lifted (os : Os) (started : os.Started) (H : Type) (enc : TypeId × Value → H) :
    ReturnsInHanded {} Try.checked os 3 .any (Rows.fnProposalIDStringIsCanonicalDecimalSpec.pre6 enc Try.prog Try.f3 Rows.fnProposalIDStringIsCanonicalDecimalRow.domain false) (Rows.fnProposalIDStringIsCanonicalDecimalSpec.post enc Try.prog Try.f3 false true false false) := by
  refine returnsInHanded_of_change (C := Try.checked) own started (by kernel_rfl) Try.func3
    (ChangeSpec.witness6 (enc := enc) (C := Try.checked) false ⟨#[], #[.string ByteArray.empty, .string ByteArray.empty], []⟩ 8 (by kernel_rfl) (by kernel_rfl) (by kernel_rfl) (by kernel_rfl)) ?_
  intro W base args ds gs before hval0 hW hcnd _
  have hval : ∀ (j : Nat) t v, Try.f3.params[j]? = some t → args[j]? = some v → Value.okWide Try.prog W .any base t v := hval0
  have hW' := hW
  obtain ⟨p, q, hA0, hV, rfl, hfz, hnd⟩ := hW
  have hA : DataW.TrodAll enc Try.prog W 0 (fun _ => true) true Try.f3.params.toList args.toList ds p := hA0
  rw [Try.params3] at hA hval
  obtain ⟨v0, vs0, d0, ds0, p0, q0, hargs, rfl, rfl, h0, r0⟩ := trodAll_cons hA
  obtain ⟨v1, vs1, d1, ds1, p1, q1, rfl, rfl, rfl, h1, r1⟩ := trodAll_cons r0
  obtain ⟨rfl, rfl, rfl⟩ := trodAll_nil r1
  obtain rfl : args = #[v0, v1] := by cases args; simp_all
  obtain ⟨rfl, rfl⟩ := trodVars_none hV
  obtain ⟨a0, rfl, rfl, rfl, w0⟩ := open_string Try.underlying9 (hval 0 9 v0 rfl rfl) h0
  obtain ⟨a1, rfl, rfl, rfl, w1⟩ := open_string Try.underlying9 (hval 1 9 v1 rfl rfl) h1
  clear hA0 hval0
  simp only [List.append_nil] at hW'
  refine (walk a0 a1 w0 w1 W).mono fun e W' ⟨he, hg⟩ => ?_
  subst he
  exact ⟨_, rfl, post_of_same (pa := []) (pv := []) hW' (fun _ _ _ => (trodAll_cons_mk (shut_bool Try.underlying4 _) trodAll_mk0)) (fun sp _ => (trodAll_cons_mk (shut_string Try.underlying9 w0) (trodAll_cons_mk (shut_string Try.underlying9 w1) trodAll_mk0))) (fun _ _ => rfl) rfl
    (hg.frame _) hg.2.1 (ok_one (by kernel_rfl) rfl (okWide_bool_mk Try.underlying4 _))⟩

theorem over : Rows.fnProposalIDStringIsCanonicalDecimalRow.holds Try.pinned (OpenSpec.ofChange Rows.fnProposalIDStringIsCanonicalDecimalSpec) :=
  OpenClaim.holds_of_wide 3 Try.f3 rfl rfl rfl rfl rfl rfl rfl ⟨rfl, rfl, rfl, rfl, rfl⟩ rfl rfl rfl rfl rfl (by kernel_rfl) Try.func3 (by kernel_rfl)
    (of_decide_eq_true (by kernel_rfl)) (by unfold Func.isWrapper; first | (rw [if_pos (by decide +kernel)]; kernel_rfl) | (rw [if_neg (by decide +kernel)]; exact ⟨rfl, rfl⟩))
    (fun os started H enc _ => lifted os started H enc)

/-- ████ THE STATEMENT ████ -/
theorem proved : Rows.FnProposalIDStringIsCanonicalDecimalSaid :=
  over
#print axioms proved
end Go.Proofs.Qxb6612434a.fnProposalIDStringIsCanonicalDecimal
