/-
  NARROWER THAN 'FOR EVERY INPUT', by the rows' own cells (each row's printed sentence says how): FnHeaderKeepsFieldsAcrossWrites: maps, laid.
  DERIVED. THE GIVEN ROWS OF THIS SEAT. 1 by the template 'for every input the law returns true; each argument reads behind the call as it read before'; 0 by the template 'total and deterministic' (their statements: Qxb6613742aFmtTotals.lean).
  GIVEN WITH THE SEED: the statements are not yours to turn. If you find one false, say at which input.
  Laid BY PROGRAM, IN A SANDBOX (cutbox-rows.mjs): the forced cells as the released guide's own fill.sh prints them over the translation 72db69da10923e3a… (all of the seat's roots in one cut). By AI agents, Wed Nov 11 2026. No macro, syntax, notation, axiom, sorry.
-/
import Derived.Test.Qxb6613742aFmtChecked
import GoSem.Claim
import GoSem.ClaimJoined
import GoSem.ClaimMapViews
import Derived.JoinedTies
import Derived.KernelRfl
namespace Go.Proofs.Qxb6613742aFmt
/- THE CELL 'sum', in the pinned program and in every row, IS THE sha256 OF THE DUMP (.gsa) THAT Qxb6613742aFmtProg.lean LOADS. Nothing in Lean hashes anything: it is a label: what it is worth is what the hold of that sum in a sandbox is worth. -/
noncomputable def Tryf.pinned : Pinned := { name := "qxb6613742afmt", sum := "72db69da10923e3a7ba7f0cc99008b055f4d510b9a4be87333ef3016c122e94d", checked := Tryf.checked }
namespace Rows
def none {H : Type} : Left H := { results := [], args := [] }

/- WHAT THE LISTED PACKAGE-LEVEL VARIABLES READ AS WHEN THE CALL BEGINS. Each datum BY PROGRAM (the guide's laid-datum.mjs) off the statement by which the dump's own 'gosem.cut.vars' lays the variable. In a bare row this is a premise. The card (Qxb6613742aFmtCards.lean) ties it to the program's text. -/
def laid_bytes_ErrTooLarge {H : Type} : DataW H := .iface "*errors.errorString" (.ptr (.agg [.lit (.string [98, 121, 116, 101, 115, 46, 66, 117, 102, 102, 101, 114, 58, 32, 116, 111, 111, 32, 108, 97, 114, 103, 101])]))
def laid_net_http_ErrBodyNotAllowed {H : Type} : DataW H := .iface "*errors.errorString" (.ptr (.agg [.lit (.string [104, 116, 116, 112, 58, 32, 114, 101, 113, 117, 101, 115, 116, 32, 109, 101, 116, 104, 111, 100, 32, 111, 114, 32, 114, 101, 115, 112, 111, 110, 115, 101, 32, 115, 116, 97, 116, 117, 115, 32, 99, 111, 100, 101, 32, 100, 111, 101, 115, 32, 110, 111, 116, 32, 97, 108, 108, 111, 119, 32, 98, 111, 100, 121])]))

/-- 'zzlaws_httpkey_b1.FnHeaderKeepsFieldsAcrossWrites': WHATEVER THE INPUT: true; the input reads as it did. -/
def fnHeaderKeepsFieldsAcrossWritesSpec : ChangeSpec := { name := "fnHeaderKeepsFieldsAcrossWrites", fn := fun _ => fun
  | [d1, d2, d3, d4] => { results := [.lit (.bool true)], args := [d1, d2, d3, d4] }
  | _ => none }
def fnHeaderKeepsFieldsAcrossWritesRow : OpenClaim := { program := "qxb6613742afmt", sum := "72db69da10923e3a7ba7f0cc99008b055f4d510b9a4be87333ef3016c122e94d", func := "example.com/donce/donce/zzlaws_httpkey_b1.FnHeaderKeepsFieldsAcrossWrites", spec := "fnHeaderKeepsFieldsAcrossWrites", stops := ["fmt.Sprintf"], inPlace := ["fmt.Sprintf"], named := ["bytes.ErrTooLarge", "net/http.ErrBodyNotAllowed"], maps := true, apart := false, laid := [("bytes.ErrTooLarge", laid_bytes_ErrTooLarge), ("net/http.ErrBodyNotAllowed", laid_net_http_ErrBodyNotAllowed)] }
/-- NO THEOREM (fmt's text is open here; it may be false): for the released tool's asking of the row's closed facts alone. THE STATEMENT IS 'FnHeaderKeepsFieldsAcrossWritesToldSaid' (Qxb6613742aFmtCards.lean). -/
def FnHeaderKeepsFieldsAcrossWritesFormAsk : Prop := fnHeaderKeepsFieldsAcrossWritesRow.holds Tryf.pinned (OpenSpec.ofChange fnHeaderKeepsFieldsAcrossWritesSpec)

/-- ITS FALSE NEIGHBOUR: 'it returns false'. Refute it at one input. -/
def fnHeaderKeepsFieldsAcrossWritesWrong : ChangeSpec := { name := "fnHeaderKeepsFieldsAcrossWrites", fn := fun _ => fun
  | [d1, d2, d3, d4] => { results := [.lit (.bool false)], args := [d1, d2, d3, d4] }
  | _ => none }
def FnHeaderKeepsFieldsAcrossWritesWrongFormAsk : Prop := fnHeaderKeepsFieldsAcrossWritesRow.holds Tryf.pinned (OpenSpec.ofChange fnHeaderKeepsFieldsAcrossWritesWrong)

end Rows
end Go.Proofs.Qxb6613742aFmt
