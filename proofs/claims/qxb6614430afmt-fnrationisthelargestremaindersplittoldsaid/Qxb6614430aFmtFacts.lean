/-
  Closed facts for the walk over fmt.errorf's plain stop in this dump: the stop's entry, two literal formats, the operand types int64 (2), uint64 (29), the error type that it makes (53). Each by the kernel's own reckoning.
-/
import Derived.Test.Qxb6614430aFmtRows
import Derived.Stop.CallBack
import Derived.Stop.IfaceNil
import GoSem.ClaimData
namespace Go.Proofs.Qxb6614430aFmt
open Go.Extern.Stop Go.Stop Go.Extern

theorem Tryf.call19 (args : Array Value) (w : World) : (callFunc 19 args).run Tryf.prog w = ((FmtStop.errorf #[9, 47] #[26] args).run Tryf.prog w).andThen fun v w' => .ok (.value v) w' :=
  run_callFunc_extern Tryf.func19 (by kernel_rfl) (by kernel_rfl) (by kernel_rfl) (by kernel_rfl) args w
theorem Tryf.guard (name : String) (w : World) : (FmtStop.guard name).run Tryf.prog w = .ok () w := by kernel_rfl

theorem Tryf.fmtN1 : FmtStop.printed? ⟨#[114, 97, 116, 105, 111, 110, 105, 110, 103, 32, 37, 100, 32, 104, 117, 110, 100, 114, 101, 100, 116, 104, 115, 32, 111, 102, 32, 97, 32, 115, 104, 97, 114, 101, 32, 97, 109, 111, 110, 103, 32, 114, 101, 100, 101, 109, 112, 116, 105, 111, 110, 115, 58, 32, 97, 32, 110, 117, 109, 98, 101, 114, 32, 111, 102, 32, 115, 104, 97, 114, 101, 115, 32, 105, 115, 32, 110, 101, 103, 97, 116, 105, 118, 101]⟩ 1 = some [(0, 100, false)] := by kernel_rfl
theorem Tryf.fmtN1r (w : World) : (FmtDoors.printed ⟨#[114, 97, 116, 105, 111, 110, 105, 110, 103, 32, 37, 100, 32, 104, 117, 110, 100, 114, 101, 100, 116, 104, 115, 32, 111, 102, 32, 97, 32, 115, 104, 97, 114, 101, 32, 97, 109, 111, 110, 103, 32, 114, 101, 100, 101, 109, 112, 116, 105, 111, 110, 115, 58, 32, 97, 32, 110, 117, 109, 98, 101, 114, 32, 111, 102, 32, 115, 104, 97, 114, 101, 115, 32, 105, 115, 32, 110, 101, 103, 97, 116, 105, 118, 101]⟩ 1).run Tryf.prog w = .ok [(0, 100, false)] w := by kernel_rfl
theorem Tryf.fmtO1 : FmtStop.printed? ⟨#[114, 97, 116, 105, 111, 110, 105, 110, 103, 32, 114, 101, 100, 101, 109, 112, 116, 105, 111, 110, 115, 32, 116, 104, 97, 116, 32, 97, 115, 107, 32, 102, 111, 114, 32, 109, 111, 114, 101, 32, 116, 104, 97, 110, 32, 37, 100, 32, 104, 117, 110, 100, 114, 101, 100, 116, 104, 115, 32, 111, 102, 32, 97, 32, 115, 104, 97, 114, 101, 32, 105, 110, 32, 97, 108, 108]⟩ 1 = some [(0, 100, false)] := by kernel_rfl
theorem Tryf.fmtO1r (w : World) : (FmtDoors.printed ⟨#[114, 97, 116, 105, 111, 110, 105, 110, 103, 32, 114, 101, 100, 101, 109, 112, 116, 105, 111, 110, 115, 32, 116, 104, 97, 116, 32, 97, 115, 107, 32, 102, 111, 114, 32, 109, 111, 114, 101, 32, 116, 104, 97, 110, 32, 37, 100, 32, 104, 117, 110, 100, 114, 101, 100, 116, 104, 115, 32, 111, 102, 32, 97, 32, 115, 104, 97, 114, 101, 32, 105, 110, 32, 97, 108, 108]⟩ 1).run Tryf.prog w = .ok [(0, 100, false)] w := by kernel_rfl

def Tryf.shape2 : List UInt8 := [5, 5, 0, 0, 0, 0, 0, 0, 0, 105, 110, 116, 54, 52]
theorem Tryf.op2_100 (name : String) (x : Int) (w : World) : (FmtStop.operand name false 100 false (.iface 2 (.int .i64 x))).run Tryf.prog w = .ok (Tryf.shape2, Go.Extern.Stop.digits 8 (x % 2 ^ 64).toNat) w := by kernel_rfl
theorem Tryf.op2_100w (name : String) (x : Int) (w : World) : (FmtStop.operand name true 100 false (.iface 2 (.int .i64 x))).run Tryf.prog w = .ok (Tryf.shape2, Go.Extern.Stop.digits 8 (x % 2 ^ 64).toNat) w := by kernel_rfl
def Tryf.shape29 : List UInt8 := [9, 6, 0, 0, 0, 0, 0, 0, 0, 117, 105, 110, 116, 54, 52]
theorem Tryf.op29_100 (name : String) (x : Int) (w : World) : (FmtStop.operand name false 100 false (.iface 29 (.int .u64 x))).run Tryf.prog w = .ok (Tryf.shape29, Go.Extern.Stop.digits 8 (x % 2 ^ 64).toNat) w := by kernel_rfl
theorem Tryf.op29_100w (name : String) (x : Int) (w : World) : (FmtStop.operand name true 100 false (.iface 29 (.int .u64 x))).run Tryf.prog w = .ok (Tryf.shape29, Go.Extern.Stop.digits 8 (x % 2 ^ 64).toNat) w := by kernel_rfl

theorem Tryf.ptr53 (w : World) : (FmtStop.ptrTo "errors.errorString").run Tryf.prog w = .ok 53 w := by kernel_rfl
theorem Tryf.elem53 (w : World) : (elemOf 53).run Tryf.prog w = .ok 55 w := by kernel_rfl

end Go.Proofs.Qxb6614430aFmt
