/-
  No cell of these rows narrows 'for every input' (looked for: loops, veiled, ifaces, maps, wideKeys, modest, calm, conditions, laid).
  DERIVED. THE GIVEN ROWS OF THIS SEAT. 1 by the template 'for every input the law returns true; each argument reads behind the call as it read before'; 0 by the template 'total and deterministic' (their statements: Qxb6612610aFmtTotals.lean).
  GIVEN WITH THE SEED: the statements are not yours to turn. If you find one false, say at which input.
  Laid BY PROGRAM, IN A SANDBOX (cutbox-rows.mjs): the forced cells as the released guide's own fill.sh prints them over the translation 507a4a3bd80c11d5… (all of the seat's roots in one cut). By AI agents, Wed Nov 11 2026. No macro, syntax, notation, axiom, sorry.
-/
import Derived.Test.Qxb6612610aFmtChecked
import GoSem.Claim
import GoSem.ClaimJoined
import GoSem.ClaimMapViews
import Derived.JoinedTies
import Derived.KernelRfl
namespace Go.Proofs.Qxb6612610aFmt
/- THE CELL 'sum', in the pinned program and in every row, IS THE sha256 OF THE DUMP (.gsa) THAT Qxb6612610aFmtProg.lean LOADS. Nothing in Lean hashes anything: it is a label: what it is worth is what the hold of that sum in a sandbox is worth. -/
noncomputable def Tryf.pinned : Pinned := { name := "qxb6612610afmt", sum := "507a4a3bd80c11d5ffa5bed206ac70ec7137cfb3a57e28b5233aa4f3938e5c84", checked := Tryf.checked }
namespace Rows
def none {H : Type} : Left H := { results := [], args := [] }

/-- 'zzlaws_pkg_book_b1.FnMissingColumnIsAFault': WHATEVER THE INPUT: true; the input reads as it did. -/
def fnMissingColumnIsAFaultSpec : ChangeSpec := { name := "fnMissingColumnIsAFault", fn := fun _ => fun
  | [d] => { results := [.lit (.bool true)], args := [d] }
  | _ => none }
def fnMissingColumnIsAFaultRow : OpenClaim := { program := "qxb6612610afmt", sum := "507a4a3bd80c11d5ffa5bed206ac70ec7137cfb3a57e28b5233aa4f3938e5c84", func := "example.com/provisor/provisor/zzlaws_pkg_book_b1.FnMissingColumnIsAFault", spec := "fnMissingColumnIsAFault", stops := ["fmt.errorf"], inPlace := ["fmt.errorf"], apart := false }
/-- NO THEOREM (fmt's text is open here; it may be false): for the released tool's asking of the row's closed facts alone. THE STATEMENT IS 'FnMissingColumnIsAFaultToldSaid' (Qxb6612610aFmtCards.lean). -/
def FnMissingColumnIsAFaultFormAsk : Prop := fnMissingColumnIsAFaultRow.holds Tryf.pinned (OpenSpec.ofChange fnMissingColumnIsAFaultSpec)

/-- ITS FALSE NEIGHBOUR: 'it returns false'. Refute it at one input. -/
def fnMissingColumnIsAFaultWrong : ChangeSpec := { name := "fnMissingColumnIsAFault", fn := fun _ => fun
  | [d] => { results := [.lit (.bool false)], args := [d] }
  | _ => none }
def FnMissingColumnIsAFaultWrongFormAsk : Prop := fnMissingColumnIsAFaultRow.holds Tryf.pinned (OpenSpec.ofChange fnMissingColumnIsAFaultWrong)

end Rows
end Go.Proofs.Qxb6612610aFmt
