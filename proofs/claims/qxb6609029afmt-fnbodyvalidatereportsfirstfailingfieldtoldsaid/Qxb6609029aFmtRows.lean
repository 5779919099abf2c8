/-
  No cell of these rows narrows 'for every input' (looked for: loops, veiled, ifaces, maps, wideKeys, modest, calm, conditions, laid).
  DERIVED. THE GIVEN ROWS OF THIS SEAT. 1 by the template 'for every input the law returns true; each argument reads behind the call as it read before'; 0 by the template 'total and deterministic' (their statements: Qxb6609029aFmtTotals.lean).
  GIVEN WITH THE SEED: the statements are not yours to turn. If you find one false, say at which input.
  Laid BY PROGRAM, IN A SANDBOX (cutbox-rows.mjs): the forced cells as the released guide's own fill.sh prints them over the translation 59c423014b4677b8… (all of the seat's roots in one cut). By AI agents, Wed Nov 11 2026. No macro, syntax, notation, axiom, sorry.
-/
import Derived.Test.Qxb6609029aFmtChecked
import GoSem.Claim
import GoSem.ClaimJoined
import GoSem.ClaimMapViews
import Derived.JoinedTies
import Derived.KernelRfl
namespace Go.Proofs.Qxb6609029aFmt
/- THE CELL 'sum', in the pinned program and in every row, IS THE sha256 OF THE DUMP (.gsa) THAT Qxb6609029aFmtProg.lean LOADS. Nothing in Lean hashes anything: it is a label: what it is worth is what the hold of that sum in a sandbox is worth. -/
noncomputable def Tryf.pinned : Pinned := { name := "qxb6609029afmt", sum := "59c423014b4677b845b8e63988e1f537a546684a59815762a0bbd78e2b0f04a5", checked := Tryf.checked }
namespace Rows
def none {H : Type} : Left H := { results := [], args := [] }

/-- 'zzlaws_config_b1.FnBodyValidateReportsFirstFailingField': WHATEVER THE INPUT: true; the input reads as it did. -/
def fnBodyValidateReportsFirstFailingFieldSpec : ChangeSpec := { name := "fnBodyValidateReportsFirstFailingField", fn := fun _ => fun
  | [d1, d2, d3] => { results := [.lit (.bool true)], args := [d1, d2, d3] }
  | _ => none }
def fnBodyValidateReportsFirstFailingFieldRow : OpenClaim := { program := "qxb6609029afmt", sum := "59c423014b4677b845b8e63988e1f537a546684a59815762a0bbd78e2b0f04a5", func := "example.com/moatd/moatd/zzlaws_config_b1.FnBodyValidateReportsFirstFailingField", spec := "fnBodyValidateReportsFirstFailingField", stops := ["fmt.Sprintf, its operands' methods called"], inPlace := ["fmt.Sprintf"], unfollowed := true, recurses := true, apart := false }
/-- NO THEOREM (fmt's text is open here; it may be false): for the released tool's asking of the row's closed facts alone. THE STATEMENT IS 'FnBodyValidateReportsFirstFailingFieldToldSaid' (Qxb6609029aFmtCards.lean). -/
def FnBodyValidateReportsFirstFailingFieldFormAsk : Prop := fnBodyValidateReportsFirstFailingFieldRow.holds Tryf.pinned (OpenSpec.ofChange fnBodyValidateReportsFirstFailingFieldSpec)

/-- ITS FALSE NEIGHBOUR: 'it returns false'. Refute it at one input. -/
def fnBodyValidateReportsFirstFailingFieldWrong : ChangeSpec := { name := "fnBodyValidateReportsFirstFailingField", fn := fun _ => fun
  | [d1, d2, d3] => { results := [.lit (.bool false)], args := [d1, d2, d3] }
  | _ => none }
def FnBodyValidateReportsFirstFailingFieldWrongFormAsk : Prop := fnBodyValidateReportsFirstFailingFieldRow.holds Tryf.pinned (OpenSpec.ofChange fnBodyValidateReportsFirstFailingFieldWrong)

end Rows
end Go.Proofs.Qxb6609029aFmt
