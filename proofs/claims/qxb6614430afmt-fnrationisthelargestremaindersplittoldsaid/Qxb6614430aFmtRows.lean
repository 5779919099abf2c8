/-
  No cell of these rows narrows 'for every input' (looked for: loops, veiled, ifaces, maps, wideKeys, modest, calm, conditions, laid).
  DERIVED. THE GIVEN ROWS OF THIS SEAT. 2 by the template 'for every input the law returns true; each argument reads behind the call as it read before'; 0 by the template 'total and deterministic' (their statements: Qxb6614430aFmtTotals.lean).
  GIVEN WITH THE SEED: the statements are not yours to turn. If you find one false, say at which input.
  Laid BY PROGRAM, IN A SANDBOX (cutbox-rows.mjs): the forced cells as the released guide's own fill.sh prints them over the translation 703eae12dd4be1a2… (all of the seat's roots in one cut). By AI agents, Wed Nov 11 2026. No macro, syntax, notation, axiom, sorry.
-/
import Derived.Test.Qxb6614430aFmtChecked
import GoSem.Claim
import GoSem.ClaimJoined
import GoSem.ClaimMapViews
import Derived.JoinedTies
import Derived.KernelRfl
namespace Go.Proofs.Qxb6614430aFmt
/- THE CELL 'sum', in the pinned program and in every row, IS THE sha256 OF THE DUMP (.gsa) THAT Qxb6614430aFmtProg.lean LOADS. Nothing in Lean hashes anything: it is a label: what it is worth is what the hold of that sum in a sandbox is worth. -/
noncomputable def Tryf.pinned : Pinned := { name := "qxb6614430afmt", sum := "703eae12dd4be1a29114e15f6b8f8ebfd2b1f5577af944e554ee9ddfe5821226", checked := Tryf.checked }
namespace Rows
def none {H : Type} : Left H := { results := [], args := [] }

/-- 'zzlaws_fund_b1.FnRationIsTheLargestRemainderSplit': WHATEVER THE INPUT: true; the input reads as it did. -/
def fnRationIsTheLargestRemainderSplitSpec : ChangeSpec := { name := "fnRationIsTheLargestRemainderSplit", fn := fun _ => fun
  | [d1, d2] => { results := [.lit (.bool true)], args := [d1, d2] }
  | _ => none }
def fnRationIsTheLargestRemainderSplitRow : OpenClaim := { program := "qxb6614430afmt", sum := "703eae12dd4be1a29114e15f6b8f8ebfd2b1f5577af944e554ee9ddfe5821226", func := "example.com/zhaomu/zhaomu/zzlaws_fund_b1.FnRationIsTheLargestRemainderSplit", spec := "fnRationIsTheLargestRemainderSplit", stops := ["fmt.errorf"], inPlace := ["math/bits.Add64", "fmt.errorf"], unfollowed := true, recurses := true, named := ["math/bits.divideError", "math/bits.overflowError"], apart := false }
/-- NO THEOREM (fmt's text is open here; it may be false): for the released tool's asking of the row's closed facts alone. THE STATEMENT IS 'FnRationIsTheLargestRemainderSplitToldSaid' (Qxb6614430aFmtCards.lean). -/
def FnRationIsTheLargestRemainderSplitFormAsk : Prop := fnRationIsTheLargestRemainderSplitRow.holds Tryf.pinned (OpenSpec.ofChange fnRationIsTheLargestRemainderSplitSpec)

/-- ITS FALSE NEIGHBOUR: 'it returns false'. Refute it at one input. -/
def fnRationIsTheLargestRemainderSplitWrong : ChangeSpec := { name := "fnRationIsTheLargestRemainderSplit", fn := fun _ => fun
  | [d1, d2] => { results := [.lit (.bool false)], args := [d1, d2] }
  | _ => none }
def FnRationIsTheLargestRemainderSplitWrongFormAsk : Prop := fnRationIsTheLargestRemainderSplitRow.holds Tryf.pinned (OpenSpec.ofChange fnRationIsTheLargestRemainderSplitWrong)

/-- 'zzlaws_fund_b1.FnRationGivesEachItsShareToTheCent': WHATEVER THE INPUT: true; the input reads as it did. -/
def fnRationGivesEachItsShareToTheCentSpec : ChangeSpec := { name := "fnRationGivesEachItsShareToTheCent", fn := fun _ => fun
  | [d1, d2] => { results := [.lit (.bool true)], args := [d1, d2] }
  | _ => none }
def fnRationGivesEachItsShareToTheCentRow : OpenClaim := { program := "qxb6614430afmt", sum := "703eae12dd4be1a29114e15f6b8f8ebfd2b1f5577af944e554ee9ddfe5821226", func := "example.com/zhaomu/zhaomu/zzlaws_fund_b1.FnRationGivesEachItsShareToTheCent", spec := "fnRationGivesEachItsShareToTheCent", stops := ["fmt.errorf"], inPlace := ["math/bits.Add64", "fmt.errorf"], unfollowed := true, recurses := true, named := ["math/bits.divideError", "math/bits.overflowError"], apart := false }
/-- NO THEOREM (fmt's text is open here; it may be false): for the released tool's asking of the row's closed facts alone. THE STATEMENT IS 'FnRationGivesEachItsShareToTheCentToldSaid' (Qxb6614430aFmtCards.lean). -/
def FnRationGivesEachItsShareToTheCentFormAsk : Prop := fnRationGivesEachItsShareToTheCentRow.holds Tryf.pinned (OpenSpec.ofChange fnRationGivesEachItsShareToTheCentSpec)

/-- ITS FALSE NEIGHBOUR: 'it returns false'. Refute it at one input. -/
def fnRationGivesEachItsShareToTheCentWrong : ChangeSpec := { name := "fnRationGivesEachItsShareToTheCent", fn := fun _ => fun
  | [d1, d2] => { results := [.lit (.bool false)], args := [d1, d2] }
  | _ => none }
def FnRationGivesEachItsShareToTheCentWrongFormAsk : Prop := fnRationGivesEachItsShareToTheCentRow.holds Tryf.pinned (OpenSpec.ofChange fnRationGivesEachItsShareToTheCentWrong)

end Rows
end Go.Proofs.Qxb6614430aFmt
