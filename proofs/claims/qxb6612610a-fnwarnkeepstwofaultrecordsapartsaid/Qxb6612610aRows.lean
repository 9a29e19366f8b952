/-
  No cell of these rows narrows 'for every input' (looked for: loops, veiled, ifaces, maps, wideKeys, modest, calm, conditions, laid).
  DERIVED. THE GIVEN ROWS OF THIS SEAT. 2 by the template 'for every input the law returns true; each argument reads behind the call as it read before'; 0 by the template 'total and deterministic' (their statements: Qxb6612610aTotals.lean).
  GIVEN WITH THE SEED: the statements are not yours to turn. If you find one false, say at which input.
  Laid BY PROGRAM, IN A SANDBOX (cutbox-rows.mjs): the forced cells as the released guide's own fill.sh prints them over the translation b7775b60bcf410d5… (all of the seat's roots in one cut). By AI agents, Wed Nov 11 2026. No macro, syntax, notation, axiom, sorry.
-/
import Derived.Test.Qxb6612610aChecked
import GoSem.Claim
import GoSem.ClaimJoined
import GoSem.ClaimMapViews
import Derived.JoinedTies
import Derived.KernelRfl
namespace Go.Proofs.Qxb6612610a
/- THE CELL 'sum', in the pinned program and in every row, IS THE sha256 OF THE DUMP (.gsa) THAT Qxb6612610aProg.lean LOADS. Nothing in Lean hashes anything: it is a label: what it is worth is what the hold of that sum in a sandbox is worth. -/
noncomputable def Try.pinned : Pinned := { name := "qxb6612610a", sum := "b7775b60bcf410d564c6e6993bdbadb64af02b731974dbbe6b58ac331c7f0780", checked := Try.checked }
namespace Rows
def none {H : Type} : Left H := { results := [], args := [] }

/-- 'zzlaws_pkg_book_b1.FnWarnKeepsTwoFaultRecordsApart': WHATEVER THE INPUT: true; the input reads as it did. -/
def fnWarnKeepsTwoFaultRecordsApartSpec : ChangeSpec := { name := "fnWarnKeepsTwoFaultRecordsApart", fn := fun _ => fun
  | [d1, d2, d3] => { results := [.lit (.bool true)], args := [d1, d2, d3] }
  | _ => none }
def fnWarnKeepsTwoFaultRecordsApartRow : OpenClaim := { program := "qxb6612610a", sum := "b7775b60bcf410d564c6e6993bdbadb64af02b731974dbbe6b58ac331c7f0780", func := "example.com/provisor/provisor/zzlaws_pkg_book_b1.FnWarnKeepsTwoFaultRecordsApart", spec := "fnWarnKeepsTwoFaultRecordsApart", apart := false }
def FnWarnKeepsTwoFaultRecordsApartSaid : Prop := fnWarnKeepsTwoFaultRecordsApartRow.holds Try.pinned (OpenSpec.ofChange fnWarnKeepsTwoFaultRecordsApartSpec)

/-- ITS FALSE NEIGHBOUR: 'it returns false'. Refute it at one input. -/
def fnWarnKeepsTwoFaultRecordsApartWrong : ChangeSpec := { name := "fnWarnKeepsTwoFaultRecordsApart", fn := fun _ => fun
  | [d1, d2, d3] => { results := [.lit (.bool false)], args := [d1, d2, d3] }
  | _ => none }
def FnWarnKeepsTwoFaultRecordsApartWrongFalsely : Prop := fnWarnKeepsTwoFaultRecordsApartRow.holds Try.pinned (OpenSpec.ofChange fnWarnKeepsTwoFaultRecordsApartWrong)

/-- 'zzlaws_pkg_book_b1.FnWarningsGiveEachWarningInOrder': WHATEVER THE INPUT: true; the input reads as it did. -/
def fnWarningsGiveEachWarningInOrderSpec : ChangeSpec := { name := "fnWarningsGiveEachWarningInOrder", fn := fun _ => fun
  | [d1, d2] => { results := [.lit (.bool true)], args := [d1, d2] }
  | _ => none }
def fnWarningsGiveEachWarningInOrderRow : OpenClaim := { program := "qxb6612610a", sum := "b7775b60bcf410d564c6e6993bdbadb64af02b731974dbbe6b58ac331c7f0780", func := "example.com/provisor/provisor/zzlaws_pkg_book_b1.FnWarningsGiveEachWarningInOrder", spec := "fnWarningsGiveEachWarningInOrder", apart := false }
def FnWarningsGiveEachWarningInOrderSaid : Prop := fnWarningsGiveEachWarningInOrderRow.holds Try.pinned (OpenSpec.ofChange fnWarningsGiveEachWarningInOrderSpec)

/-- ITS FALSE NEIGHBOUR: 'it returns false'. Refute it at one input. -/
def fnWarningsGiveEachWarningInOrderWrong : ChangeSpec := { name := "fnWarningsGiveEachWarningInOrder", fn := fun _ => fun
  | [d1, d2] => { results := [.lit (.bool false)], args := [d1, d2] }
  | _ => none }
def FnWarningsGiveEachWarningInOrderWrongFalsely : Prop := fnWarningsGiveEachWarningInOrderRow.holds Try.pinned (OpenSpec.ofChange fnWarningsGiveEachWarningInOrderWrong)

end Rows
end Go.Proofs.Qxb6612610a
