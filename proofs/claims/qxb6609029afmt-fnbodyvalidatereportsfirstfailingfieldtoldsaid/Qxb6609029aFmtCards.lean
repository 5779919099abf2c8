/-
  DERIVED. GIVEN WITH THE SEED: THE CARDS: each row of Qxb6609029aFmtRows.lean that lists a variable, with what it lists TIED to the program's text (the seventh form; the later family's looks); each row that meets fmt, with fmt's text TOLD by the authors' own Lean function (tested against real Go, not proved from fmt's source: count such statements apart). THE CARD IS WHAT COUNTS. Prove the row's statement (the work); the ties are given (Qxb6609029aFmtTie.lean); close each card by the builder's one call (the guide's Derived/Test/ToyasCard.lean, 'card_holds'). Laid BY PROGRAM, IN A SANDBOX (cutbox-door.mjs). By AI agents, Wed Nov 11 2026. No macro, syntax, notation, axiom, sorry.
-/
import Derived.Test.Qxb6609029aFmtRows
import GoSem.ClaimSeven
namespace Go.Proofs.Qxb6609029aFmt
namespace Rows

/-- THE TOLD CARD OF 'zzlaws_config_b1.FnBodyValidateReportsFirstFailingField'. -/
def fnBodyValidateReportsFirstFailingFieldCard : Claim7 := { stood := { row := fnBodyValidateReportsFirstFailingFieldRow, standIns := [], harness := (true, "05da37e771146d64ef0a5d69c39c191213a03317a6e09dbbb5c37925316f4c13"), looks := true }, told := true, goes := false }
def FnBodyValidateReportsFirstFailingFieldToldSaid : Prop := Claim7.holds Tryf.pinned (.plain (OpenSpec.ofChange fnBodyValidateReportsFirstFailingFieldSpec)) fnBodyValidateReportsFirstFailingFieldCard
/-- ITS FALSE NEIGHBOUR. Refute it at one input. -/
def FnBodyValidateReportsFirstFailingFieldToldWrongFalsely : Prop := Claim7.holds Tryf.pinned (.plain (OpenSpec.ofChange fnBodyValidateReportsFirstFailingFieldWrong)) fnBodyValidateReportsFirstFailingFieldCard
end Rows
end Go.Proofs.Qxb6609029aFmt
