/-
  No cell of these rows narrows 'for every input' (looked for: loops, veiled, ifaces, maps, wideKeys, modest, calm, conditions, laid).
  DERIVED. THE GIVEN ROWS OF THIS SEAT. 3 by the template 'for every input the law returns true; each argument reads behind the call as it read before'; 0 by the template 'total and deterministic' (their statements: Qxb6612588aTotals.lean).
  GIVEN WITH THE SEED: the statements are not yours to turn. If you find one false, say at which input.
  Laid BY PROGRAM, IN A SANDBOX (cutbox-rows.mjs): the forced cells as the released guide's own fill.sh prints them over the translation 0ff2d160c7cdf42e… (all of the seat's roots in one cut). By AI agents, Wed Nov 11 2026. No macro, syntax, notation, axiom, sorry.
-/
import Derived.Test.Qxb6612588aChecked
import GoSem.Claim
import GoSem.ClaimJoined
import GoSem.ClaimMapViews
import Derived.JoinedTies
import Derived.KernelRfl
namespace Go.Proofs.Qxb6612588a
/- THE CELL 'sum', in the pinned program and in every row, IS THE sha256 OF THE DUMP (.gsa) THAT Qxb6612588aProg.lean LOADS. Nothing in Lean hashes anything: it is a label: what it is worth is what the hold of that sum in a sandbox is worth. -/
noncomputable def Try.pinned : Pinned := { name := "qxb6612588a", sum := "0ff2d160c7cdf42e817ebf843dab79ccebdf8f195c6eaedd78f049e782828cdd", checked := Try.checked }
namespace Rows
def none {H : Type} : Left H := { results := [], args := [] }

/-- 'zzlaws_pkg_planfile_b1.FnMarksDocumentReadsFourBytes': WHATEVER THE INPUT: true; the input reads as it did. -/
def fnMarksDocumentReadsFourBytesSpec : ChangeSpec := { name := "fnMarksDocumentReadsFourBytes", fn := fun _ => fun
  | [d1, d2, d3, d4] => { results := [.lit (.bool true)], args := [d1, d2, d3, d4] }
  | _ => none }
def fnMarksDocumentReadsFourBytesRow : OpenClaim := { program := "qxb6612588a", sum := "0ff2d160c7cdf42e817ebf843dab79ccebdf8f195c6eaedd78f049e782828cdd", func := "example.com/vestwright/vestwright/zzlaws_pkg_planfile_b1.FnMarksDocumentReadsFourBytes", spec := "fnMarksDocumentReadsFourBytes", apart := false }
def FnMarksDocumentReadsFourBytesSaid : Prop := fnMarksDocumentReadsFourBytesRow.holds Try.pinned (OpenSpec.ofChange fnMarksDocumentReadsFourBytesSpec)

/-- ITS FALSE NEIGHBOUR: 'it returns false'. Refute it at one input. -/
def fnMarksDocumentReadsFourBytesWrong : ChangeSpec := { name := "fnMarksDocumentReadsFourBytes", fn := fun _ => fun
  | [d1, d2, d3, d4] => { results := [.lit (.bool false)], args := [d1, d2, d3, d4] }
  | _ => none }
def FnMarksDocumentReadsFourBytesWrongFalsely : Prop := fnMarksDocumentReadsFourBytesRow.holds Try.pinned (OpenSpec.ofChange fnMarksDocumentReadsFourBytesWrong)

/-- 'zzlaws_pkg_planfile_b1.FnAliasErrorPlacesKeyAndNamesWhat': WHATEVER THE INPUT: true; the input reads as it did. -/
def fnAliasErrorPlacesKeyAndNamesWhatSpec : ChangeSpec := { name := "fnAliasErrorPlacesKeyAndNamesWhat", fn := fun _ => fun
  | [d1, d2, d3, d4, d5, d6, d7] => { results := [.lit (.bool true)], args := [d1, d2, d3, d4, d5, d6, d7] }
  | _ => none }
def fnAliasErrorPlacesKeyAndNamesWhatRow : OpenClaim := { program := "qxb6612588a", sum := "0ff2d160c7cdf42e817ebf843dab79ccebdf8f195c6eaedd78f049e782828cdd", func := "example.com/vestwright/vestwright/zzlaws_pkg_planfile_b1.FnAliasErrorPlacesKeyAndNamesWhat", spec := "fnAliasErrorPlacesKeyAndNamesWhat", apart := false }
def FnAliasErrorPlacesKeyAndNamesWhatSaid : Prop := fnAliasErrorPlacesKeyAndNamesWhatRow.holds Try.pinned (OpenSpec.ofChange fnAliasErrorPlacesKeyAndNamesWhatSpec)

/-- ITS FALSE NEIGHBOUR: 'it returns false'. Refute it at one input. -/
def fnAliasErrorPlacesKeyAndNamesWhatWrong : ChangeSpec := { name := "fnAliasErrorPlacesKeyAndNamesWhat", fn := fun _ => fun
  | [d1, d2, d3, d4, d5, d6, d7] => { results := [.lit (.bool false)], args := [d1, d2, d3, d4, d5, d6, d7] }
  | _ => none }
def FnAliasErrorPlacesKeyAndNamesWhatWrongFalsely : Prop := fnAliasErrorPlacesKeyAndNamesWhatRow.holds Try.pinned (OpenSpec.ofChange fnAliasErrorPlacesKeyAndNamesWhatWrong)

/-- 'zzlaws_pkg_planfile_b1.FnAliasErrorFreshAndTellsWhatApart': WHATEVER THE INPUT: true; the input reads as it did. -/
def fnAliasErrorFreshAndTellsWhatApartSpec : ChangeSpec := { name := "fnAliasErrorFreshAndTellsWhatApart", fn := fun _ => fun
  | [d1, d2, d3, d4, d5] => { results := [.lit (.bool true)], args := [d1, d2, d3, d4, d5] }
  | _ => none }
def fnAliasErrorFreshAndTellsWhatApartRow : OpenClaim := { program := "qxb6612588a", sum := "0ff2d160c7cdf42e817ebf843dab79ccebdf8f195c6eaedd78f049e782828cdd", func := "example.com/vestwright/vestwright/zzlaws_pkg_planfile_b1.FnAliasErrorFreshAndTellsWhatApart", spec := "fnAliasErrorFreshAndTellsWhatApart", apart := false }
def FnAliasErrorFreshAndTellsWhatApartSaid : Prop := fnAliasErrorFreshAndTellsWhatApartRow.holds Try.pinned (OpenSpec.ofChange fnAliasErrorFreshAndTellsWhatApartSpec)

/-- ITS FALSE NEIGHBOUR: 'it returns false'. Refute it at one input. -/
def fnAliasErrorFreshAndTellsWhatApartWrong : ChangeSpec := { name := "fnAliasErrorFreshAndTellsWhatApart", fn := fun _ => fun
  | [d1, d2, d3, d4, d5] => { results := [.lit (.bool false)], args := [d1, d2, d3, d4, d5] }
  | _ => none }
def FnAliasErrorFreshAndTellsWhatApartWrongFalsely : Prop := fnAliasErrorFreshAndTellsWhatApartRow.holds Try.pinned (OpenSpec.ofChange fnAliasErrorFreshAndTellsWhatApartWrong)

end Rows
end Go.Proofs.Qxb6612588a
