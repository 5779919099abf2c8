/-
  DERIVED. GIVEN WITH THE SEED: THE CARDS: each row of Qxb6614575aFmtRows.lean that lists a variable, with what it lists TIED to the program's text (the seventh form; the later family's looks); each row that meets fmt, with fmt's text TOLD by the authors' own Lean function (tested against real Go, not proved from fmt's source: count such statements apart). THE CARD IS WHAT COUNTS. Prove the row's statement (the work); the ties are given (Qxb6614575aFmtTie.lean); close each card by the builder's one call (the guide's Derived/Test/ToyasCard.lean, 'card_holds'). Laid BY PROGRAM, IN A SANDBOX (cutbox-door.mjs). By AI agents, Wed Nov 11 2026. No macro, syntax, notation, axiom, sorry.
-/
import Derived.Test.Qxb6614575aFmtRows
import GoSem.ClaimSeven
namespace Go.Proofs.Qxb6614575aFmt
namespace Rows

/-- THE TOLD CARD OF 'zzlaws_registrar_b1.FnNotEmptyPrintsAsDir'. -/
def fnNotEmptyPrintsAsDirCard : Claim7 := { stood := { row := fnNotEmptyPrintsAsDirRow, standIns := [], harness := (true, "0c7fbbcd5514338822643db838985a4a869ec7477a04e4475e19f39be3c07e71"), looks := true }, told := true, goes := false }
def FnNotEmptyPrintsAsDirToldSaid : Prop := Claim7.holds Tryf.pinned (.plain (OpenSpec.ofChange fnNotEmptyPrintsAsDirSpec)) fnNotEmptyPrintsAsDirCard
/-- ITS FALSE NEIGHBOUR. Refute it at one input. -/
def FnNotEmptyPrintsAsDirToldWrongFalsely : Prop := Claim7.holds Tryf.pinned (.plain (OpenSpec.ofChange fnNotEmptyPrintsAsDirWrong)) fnNotEmptyPrintsAsDirCard
end Rows
end Go.Proofs.Qxb6614575aFmt
