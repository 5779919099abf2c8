/-
  DERIVED. GIVEN WITH THE SEED: THE CARDS: each row of Qxb6614430aFmtRows.lean that lists a variable, with what it lists TIED to the program's text (the seventh form; the later family's looks); each row that meets fmt, with fmt's text TOLD by the authors' own Lean function (tested against real Go, not proved from fmt's source: count such statements apart). THE CARD IS WHAT COUNTS. Prove the row's statement (the work); the ties are given (Qxb6614430aFmtTie.lean); close each card by the builder's one call (the guide's Derived/Test/ToyasCard.lean, 'card_holds'). Laid BY PROGRAM, IN A SANDBOX (cutbox-door.mjs). By AI agents, Wed Nov 11 2026. No macro, syntax, notation, axiom, sorry.
-/
import Derived.Test.Qxb6614430aFmtRows
import GoSem.ClaimSeven
namespace Go.Proofs.Qxb6614430aFmt
namespace Rows

/-- THE TOLD CARD OF 'zzlaws_fund_b1.FnRationIsTheLargestRemainderSplit'. -/
def fnRationIsTheLargestRemainderSplitCard : Claim7 := { stood := { row := fnRationIsTheLargestRemainderSplitRow, standIns := [], harness := (true, "f5caddb83db4da6e1e08518d01ef5c4865016e15d8d7bd2bc13cac2f1e73690b"), looks := false }, told := true, goes := false }
def FnRationIsTheLargestRemainderSplitToldSaid : Prop := Claim7.holds Tryf.pinned (.plain (OpenSpec.ofChange fnRationIsTheLargestRemainderSplitSpec)) fnRationIsTheLargestRemainderSplitCard
/-- ITS FALSE NEIGHBOUR. Refute it at one input. -/
def FnRationIsTheLargestRemainderSplitToldWrongFalsely : Prop := Claim7.holds Tryf.pinned (.plain (OpenSpec.ofChange fnRationIsTheLargestRemainderSplitWrong)) fnRationIsTheLargestRemainderSplitCard

/-- THE TOLD CARD OF 'zzlaws_fund_b1.FnRationGivesEachItsShareToTheCent'. -/
def fnRationGivesEachItsShareToTheCentCard : Claim7 := { stood := { row := fnRationGivesEachItsShareToTheCentRow, standIns := [], harness := (true, "f5caddb83db4da6e1e08518d01ef5c4865016e15d8d7bd2bc13cac2f1e73690b"), looks := false }, told := true, goes := false }
def FnRationGivesEachItsShareToTheCentToldSaid : Prop := Claim7.holds Tryf.pinned (.plain (OpenSpec.ofChange fnRationGivesEachItsShareToTheCentSpec)) fnRationGivesEachItsShareToTheCentCard
/-- ITS FALSE NEIGHBOUR. Refute it at one input. -/
def FnRationGivesEachItsShareToTheCentToldWrongFalsely : Prop := Claim7.holds Tryf.pinned (.plain (OpenSpec.ofChange fnRationGivesEachItsShareToTheCentWrong)) fnRationGivesEachItsShareToTheCentCard
end Rows
end Go.Proofs.Qxb6614430aFmt
