/-
  No cell of these rows narrows 'for every input' (looked for: loops, veiled, ifaces, maps, wideKeys, modest, calm, conditions, laid).
  DERIVED. THE GIVEN ROWS OF THIS SEAT. 1 by the template 'for every input the law returns true; each argument reads behind the call as it read before'; 0 by the template 'total and deterministic' (their statements: Qxb6614575aFmtTotals.lean).
  GIVEN WITH THE SEED: the statements are not yours to turn. If you find one false, say at which input.
  Laid BY PROGRAM, IN A SANDBOX (cutbox-rows.mjs): the forced cells as the released guide's own fill.sh prints them over the translation 5fb2e2a4e26161ad… (all of the seat's roots in one cut). By AI agents, Wed Nov 11 2026. No macro, syntax, notation, axiom, sorry.
-/
import Derived.Test.Qxb6614575aFmtChecked
import GoSem.Claim
import GoSem.ClaimJoined
import GoSem.ClaimMapViews
import Derived.JoinedTies
import Derived.KernelRfl
namespace Go.Proofs.Qxb6614575aFmt
/- THE CELL 'sum', in the pinned program and in every row, IS THE sha256 OF THE DUMP (.gsa) THAT Qxb6614575aFmtProg.lean LOADS. Nothing in Lean hashes anything: it is a label: what it is worth is what the hold of that sum in a sandbox is worth. -/
noncomputable def Tryf.pinned : Pinned := { name := "qxb6614575afmt", sum := "5fb2e2a4e26161ad5e239f5f179929f2fde3ad34691001bd87d47ba0ba0add19", checked := Tryf.checked }
namespace Rows
def none {H : Type} : Left H := { results := [], args := [] }

/-- 'zzlaws_registrar_b1.FnNotEmptyPrintsAsDir': WHATEVER THE INPUT: true; the input reads as it did. -/
def fnNotEmptyPrintsAsDirSpec : ChangeSpec := { name := "fnNotEmptyPrintsAsDir", fn := fun _ => fun
  | [d] => { results := [.lit (.bool true)], args := [d] }
  | _ => none }
def fnNotEmptyPrintsAsDirRow : OpenClaim := { program := "qxb6614575afmt", sum := "5fb2e2a4e26161ad5e239f5f179929f2fde3ad34691001bd87d47ba0ba0add19", func := "example.com/zhaomu/zhaomu/zzlaws_registrar_b1.FnNotEmptyPrintsAsDir", spec := "fnNotEmptyPrintsAsDir", stops := ["fmt.Sprintf", "fmt.errorf, its operands' methods called"], inPlace := ["fmt.errorf", "fmt.Sprintf"], unfollowed := true, recurses := true, apart := false }
/-- NO THEOREM (fmt's text is open here; it may be false): for the released tool's asking of the row's closed facts alone. THE STATEMENT IS 'FnNotEmptyPrintsAsDirToldSaid' (Qxb6614575aFmtCards.lean). -/
def FnNotEmptyPrintsAsDirFormAsk : Prop := fnNotEmptyPrintsAsDirRow.holds Tryf.pinned (OpenSpec.ofChange fnNotEmptyPrintsAsDirSpec)

/-- ITS FALSE NEIGHBOUR: 'it returns false'. Refute it at one input. -/
def fnNotEmptyPrintsAsDirWrong : ChangeSpec := { name := "fnNotEmptyPrintsAsDir", fn := fun _ => fun
  | [d] => { results := [.lit (.bool false)], args := [d] }
  | _ => none }
def FnNotEmptyPrintsAsDirWrongFormAsk : Prop := fnNotEmptyPrintsAsDirRow.holds Tryf.pinned (OpenSpec.ofChange fnNotEmptyPrintsAsDirWrong)

end Rows
end Go.Proofs.Qxb6614575aFmt
