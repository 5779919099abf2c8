/-
  DERIVED. GIVEN WITH THE SEED: THE CARDS: each row of Qxb6613742aFmtRows.lean that lists a variable, with what it lists TIED to the program's text (the seventh form; the later family's looks); each row that meets fmt, with fmt's text TOLD by the authors' own Lean function (tested against real Go, not proved from fmt's source: count such statements apart). THE CARD IS WHAT COUNTS. Prove the row's statement (the work); the ties are given (Qxb6613742aFmtTie.lean); close each card by the builder's one call (the guide's Derived/Test/ToyasCard.lean, 'card_holds'). Laid BY PROGRAM, IN A SANDBOX (cutbox-door.mjs). By AI agents, Wed Nov 11 2026. No macro, syntax, notation, axiom, sorry.
-/
import Derived.Test.Qxb6613742aFmtRows
import GoSem.ClaimSeven
namespace Go.Proofs.Qxb6613742aFmt
namespace Rows

/-- THE TOLD AND TIED CARD OF 'zzlaws_httpkey_b1.FnHeaderKeepsFieldsAcrossWrites'. -/
def fnHeaderKeepsFieldsAcrossWritesCard : Claim7 := { stood := { row := fnHeaderKeepsFieldsAcrossWritesRow, standIns := [], harness := (true, "d76dc6f3e2f1a9f9ff276d7d43c4d099a754089a4be20e50df1e35b77c4fb3e7"), looks := false }, told := true, laidByText := true, laidKinds := [.sentinel, .wider], laidTests := true, laidLooks := .later, goes := false }
def FnHeaderKeepsFieldsAcrossWritesToldSaid : Prop := Claim7.holds Tryf.pinned (.plain (OpenSpec.ofChange fnHeaderKeepsFieldsAcrossWritesSpec)) fnHeaderKeepsFieldsAcrossWritesCard
/-- ITS FALSE NEIGHBOUR. Refute it at one input. -/
def FnHeaderKeepsFieldsAcrossWritesToldWrongFalsely : Prop := Claim7.holds Tryf.pinned (.plain (OpenSpec.ofChange fnHeaderKeepsFieldsAcrossWritesWrong)) fnHeaderKeepsFieldsAcrossWritesCard
end Rows
end Go.Proofs.Qxb6613742aFmt
