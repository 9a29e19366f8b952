/-
  No cell of these rows narrows 'for every input' (looked for: loops, veiled, ifaces, maps, wideKeys, modest, calm, conditions, laid).
  DERIVED. THE GIVEN ROWS OF THIS SEAT. 1 by the template 'for every input the law returns true; each argument reads behind the call as it read before'; 0 by the template 'total and deterministic' (their statements: Qxb6612434aTotals.lean).
  GIVEN WITH THE SEED: the statements are not yours to turn. If you find one false, say at which input.
  Laid BY PROGRAM, IN A SANDBOX (cutbox-rows.mjs): the forced cells as the released guide's own fill.sh prints them over the translation 854fca575021e279… (all of the seat's roots in one cut). By AI agents, Wed Nov 11 2026. No macro, syntax, notation, axiom, sorry.
-/
import Derived.Test.Qxb6612434aChecked
import GoSem.Claim
import GoSem.ClaimJoined
import GoSem.ClaimMapViews
import Derived.JoinedTies
import Derived.KernelRfl
namespace Go.Proofs.Qxb6612434a
/- THE CELL 'sum', in the pinned program and in every row, IS THE sha256 OF THE DUMP (.gsa) THAT Qxb6612434aProg.lean LOADS. Nothing in Lean hashes anything: it is a label: what it is worth is what the hold of that sum in a sandbox is worth. -/
noncomputable def Try.pinned : Pinned := { name := "qxb6612434a", sum := "854fca575021e279559579950ef30ec62abbb1e10df94cb8626df6d3daee581b", checked := Try.checked }
namespace Rows
def none {H : Type} : Left H := { results := [], args := [] }

/-- 'zzlaws_pkg_vehicle_b1.FnProposalIDStringIsCanonicalDecimal': WHATEVER THE INPUT: true; the input reads as it did. -/
def fnProposalIDStringIsCanonicalDecimalSpec : ChangeSpec := { name := "fnProposalIDStringIsCanonicalDecimal", fn := fun _ => fun
  | [d1, d2] => { results := [.lit (.bool true)], args := [d1, d2] }
  | _ => none }
def fnProposalIDStringIsCanonicalDecimalRow : OpenClaim := { program := "qxb6612434a", sum := "854fca575021e279559579950ef30ec62abbb1e10df94cb8626df6d3daee581b", func := "example.com/palisade/palisade/zzlaws_pkg_vehicle_b1.FnProposalIDStringIsCanonicalDecimal", spec := "fnProposalIDStringIsCanonicalDecimal", apart := false }
def FnProposalIDStringIsCanonicalDecimalSaid : Prop := fnProposalIDStringIsCanonicalDecimalRow.holds Try.pinned (OpenSpec.ofChange fnProposalIDStringIsCanonicalDecimalSpec)

/-- ITS FALSE NEIGHBOUR: 'it returns false'. Refute it at one input. -/
def fnProposalIDStringIsCanonicalDecimalWrong : ChangeSpec := { name := "fnProposalIDStringIsCanonicalDecimal", fn := fun _ => fun
  | [d1, d2] => { results := [.lit (.bool false)], args := [d1, d2] }
  | _ => none }
def FnProposalIDStringIsCanonicalDecimalWrongFalsely : Prop := fnProposalIDStringIsCanonicalDecimalRow.holds Try.pinned (OpenSpec.ofChange fnProposalIDStringIsCanonicalDecimalWrong)

end Rows
end Go.Proofs.Qxb6612434a
