/-
  No cell of these rows narrows 'for every input' (looked for: loops, veiled, ifaces, maps, wideKeys, modest, calm, conditions, laid).
  DERIVED. THE GIVEN ROWS OF THIS SEAT. 4 by the template 'for every input the law returns true; each argument reads behind the call as it read before'; 0 by the template 'total and deterministic' (their statements: Qxb6612665aTotals.lean).
  GIVEN WITH THE SEED: the statements are not yours to turn. If you find one false, say at which input.
  Laid BY PROGRAM, IN A SANDBOX (cutbox-rows.mjs): the forced cells as the released guide's own fill.sh prints them over the translation ab40c8f9609bd955… (all of the seat's roots in one cut). By AI agents, Wed Nov 11 2026. No macro, syntax, notation, axiom, sorry.
-/
import Derived.Test.Qxb6612665aChecked
import GoSem.Claim
import GoSem.ClaimJoined
import GoSem.ClaimMapViews
import Derived.JoinedTies
import Derived.KernelRfl
namespace Go.Proofs.Qxb6612665a
/- THE CELL 'sum', in the pinned program and in every row, IS THE sha256 OF THE DUMP (.gsa) THAT Qxb6612665aProg.lean LOADS. Nothing in Lean hashes anything: it is a label: what it is worth is what the hold of that sum in a sandbox is worth. -/
noncomputable def Try.pinned : Pinned := { name := "qxb6612665a", sum := "ab40c8f9609bd955ec2c802a8a791f64c2783349a7598d28656e4453b17ae747", checked := Try.checked }
namespace Rows
def none {H : Type} : Left H := { results := [], args := [] }

/-- 'zzlaws_internal_algo_b1.FnCountsThroughIsSumOfCosts': WHATEVER THE INPUT: true; the input reads as it did. -/
def fnCountsThroughIsSumOfCostsSpec : ChangeSpec := { name := "fnCountsThroughIsSumOfCosts", fn := fun _ => fun
  | [d1, d2, d3, d4, d5] => { results := [.lit (.bool true)], args := [d1, d2, d3, d4, d5] }
  | _ => none }
def fnCountsThroughIsSumOfCostsRow : OpenClaim := { program := "qxb6612665a", sum := "ab40c8f9609bd955ec2c802a8a791f64c2783349a7598d28656e4453b17ae747", func := "example.com/sluice/sluice/zzlaws_internal_algo_b1.FnCountsThroughIsSumOfCosts", spec := "fnCountsThroughIsSumOfCosts", apart := false }
def FnCountsThroughIsSumOfCostsSaid : Prop := fnCountsThroughIsSumOfCostsRow.holds Try.pinned (OpenSpec.ofChange fnCountsThroughIsSumOfCostsSpec)

/-- ITS FALSE NEIGHBOUR: 'it returns false'. Refute it at one input. -/
def fnCountsThroughIsSumOfCostsWrong : ChangeSpec := { name := "fnCountsThroughIsSumOfCosts", fn := fun _ => fun
  | [d1, d2, d3, d4, d5] => { results := [.lit (.bool false)], args := [d1, d2, d3, d4, d5] }
  | _ => none }
def FnCountsThroughIsSumOfCostsWrongFalsely : Prop := fnCountsThroughIsSumOfCostsRow.holds Try.pinned (OpenSpec.ofChange fnCountsThroughIsSumOfCostsWrong)

/-- 'zzlaws_internal_algo_b1.FnCountsThroughGrowsAndIgnoresOrigin': WHATEVER THE INPUT: true; the input reads as it did. -/
def fnCountsThroughGrowsAndIgnoresOriginSpec : ChangeSpec := { name := "fnCountsThroughGrowsAndIgnoresOrigin", fn := fun _ => fun
  | [d1, d2, d3, d4, d5] => { results := [.lit (.bool true)], args := [d1, d2, d3, d4, d5] }
  | _ => none }
def fnCountsThroughGrowsAndIgnoresOriginRow : OpenClaim := { program := "qxb6612665a", sum := "ab40c8f9609bd955ec2c802a8a791f64c2783349a7598d28656e4453b17ae747", func := "example.com/sluice/sluice/zzlaws_internal_algo_b1.FnCountsThroughGrowsAndIgnoresOrigin", spec := "fnCountsThroughGrowsAndIgnoresOrigin", apart := false }
def FnCountsThroughGrowsAndIgnoresOriginSaid : Prop := fnCountsThroughGrowsAndIgnoresOriginRow.holds Try.pinned (OpenSpec.ofChange fnCountsThroughGrowsAndIgnoresOriginSpec)

/-- ITS FALSE NEIGHBOUR: 'it returns false'. Refute it at one input. -/
def fnCountsThroughGrowsAndIgnoresOriginWrong : ChangeSpec := { name := "fnCountsThroughGrowsAndIgnoresOrigin", fn := fun _ => fun
  | [d1, d2, d3, d4, d5] => { results := [.lit (.bool false)], args := [d1, d2, d3, d4, d5] }
  | _ => none }
def FnCountsThroughGrowsAndIgnoresOriginWrongFalsely : Prop := fnCountsThroughGrowsAndIgnoresOriginRow.holds Try.pinned (OpenSpec.ofChange fnCountsThroughGrowsAndIgnoresOriginWrong)

/-- 'zzlaws_internal_algo_b1.FnReserveIsDecideAllOrNothing': WHATEVER THE INPUT: true; the input reads as it did. -/
def fnReserveIsDecideAllOrNothingSpec : ChangeSpec := { name := "fnReserveIsDecideAllOrNothing", fn := fun _ => fun
  | [d1, d2, d3, d4, d5, d6, d7, d8, d9] => { results := [.lit (.bool true)], args := [d1, d2, d3, d4, d5, d6, d7, d8, d9] }
  | _ => none }
def fnReserveIsDecideAllOrNothingRow : OpenClaim := { program := "qxb6612665a", sum := "ab40c8f9609bd955ec2c802a8a791f64c2783349a7598d28656e4453b17ae747", func := "example.com/sluice/sluice/zzlaws_internal_algo_b1.FnReserveIsDecideAllOrNothing", spec := "fnReserveIsDecideAllOrNothing", inPlace := ["math/bits.Add64"], named := ["math/bits.divideError", "math/bits.overflowError"], apart := false }
def FnReserveIsDecideAllOrNothingSaid : Prop := fnReserveIsDecideAllOrNothingRow.holds Try.pinned (OpenSpec.ofChange fnReserveIsDecideAllOrNothingSpec)

/-- ITS FALSE NEIGHBOUR: 'it returns false'. Refute it at one input. -/
def fnReserveIsDecideAllOrNothingWrong : ChangeSpec := { name := "fnReserveIsDecideAllOrNothing", fn := fun _ => fun
  | [d1, d2, d3, d4, d5, d6, d7, d8, d9] => { results := [.lit (.bool false)], args := [d1, d2, d3, d4, d5, d6, d7, d8, d9] }
  | _ => none }
def FnReserveIsDecideAllOrNothingWrongFalsely : Prop := fnReserveIsDecideAllOrNothingRow.holds Try.pinned (OpenSpec.ofChange fnReserveIsDecideAllOrNothingWrong)

/-- 'zzlaws_internal_algo_b1.FnReserveMorePatienceNeverHurts': WHATEVER THE INPUT: true; the input reads as it did. -/
def fnReserveMorePatienceNeverHurtsSpec : ChangeSpec := { name := "fnReserveMorePatienceNeverHurts", fn := fun _ => fun
  | [d1, d2, d3, d4, d5, d6, d7, d8, d9, d10] => { results := [.lit (.bool true)], args := [d1, d2, d3, d4, d5, d6, d7, d8, d9, d10] }
  | _ => none }
def fnReserveMorePatienceNeverHurtsRow : OpenClaim := { program := "qxb6612665a", sum := "ab40c8f9609bd955ec2c802a8a791f64c2783349a7598d28656e4453b17ae747", func := "example.com/sluice/sluice/zzlaws_internal_algo_b1.FnReserveMorePatienceNeverHurts", spec := "fnReserveMorePatienceNeverHurts", inPlace := ["math/bits.Add64"], named := ["math/bits.divideError", "math/bits.overflowError"], apart := false }
def FnReserveMorePatienceNeverHurtsSaid : Prop := fnReserveMorePatienceNeverHurtsRow.holds Try.pinned (OpenSpec.ofChange fnReserveMorePatienceNeverHurtsSpec)

/-- ITS FALSE NEIGHBOUR: 'it returns false'. Refute it at one input. -/
def fnReserveMorePatienceNeverHurtsWrong : ChangeSpec := { name := "fnReserveMorePatienceNeverHurts", fn := fun _ => fun
  | [d1, d2, d3, d4, d5, d6, d7, d8, d9, d10] => { results := [.lit (.bool false)], args := [d1, d2, d3, d4, d5, d6, d7, d8, d9, d10] }
  | _ => none }
def FnReserveMorePatienceNeverHurtsWrongFalsely : Prop := fnReserveMorePatienceNeverHurtsRow.holds Try.pinned (OpenSpec.ofChange fnReserveMorePatienceNeverHurtsWrong)

end Rows
end Go.Proofs.Qxb6612665a
