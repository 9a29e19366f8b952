/-
  DERIVED. GIVEN WITH THE SEED: THE CARDS: each row of Qxb6612610aFmtRows.lean that lists a variable, with what it lists TIED to the program's text (the seventh form; the later family's looks); each row that meets fmt, with fmt's text TOLD by the authors' own Lean function (tested against real Go, not proved from fmt's source: count such statements apart). THE CARD IS WHAT COUNTS. Prove the row's statement (the work); the ties are given (Qxb6612610aFmtTie.lean); close each card by the builder's one call (the guide's Derived/Test/ToyasCard.lean, 'card_holds'). Laid BY PROGRAM, IN A SANDBOX (cutbox-door.mjs). By AI agents, Wed Nov 11 2026. No macro, syntax, notation, axiom, sorry.
-/
import Derived.Test.Qxb6612610aFmtRows
import GoSem.ClaimSeven
namespace Go.Proofs.Qxb6612610aFmt
namespace Rows

/-- THE TOLD CARD OF 'zzlaws_pkg_book_b1.FnMissingColumnIsAFault'. -/
def fnMissingColumnIsAFaultCard : Claim7 := { stood := { row := fnMissingColumnIsAFaultRow, standIns := [], harness := (true, "6c724fd1fea5504df8c31c945d3c0257f4db75ac215d86c8416fd2439a9076e4"), looks := false }, told := true, goes := false }
def FnMissingColumnIsAFaultToldSaid : Prop := Claim7.holds Tryf.pinned (.plain (OpenSpec.ofChange fnMissingColumnIsAFaultSpec)) fnMissingColumnIsAFaultCard
/-- ITS FALSE NEIGHBOUR. Refute it at one input. -/
def FnMissingColumnIsAFaultToldWrongFalsely : Prop := Claim7.holds Tryf.pinned (.plain (OpenSpec.ofChange fnMissingColumnIsAFaultWrong)) fnMissingColumnIsAFaultCard
end Rows
end Go.Proofs.Qxb6612610aFmt
