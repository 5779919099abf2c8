/-
  Closed facts for the walks over fmt.Sprintf's calling stop in this dump: the stop's entry, three literal formats, the operand types config.ByteSize (32), int (3), time.Duration (33). Each by the kernel's own reckoning.
-/
import Derived.Test.Qxb6609029aFmtRows
import Derived.Stop.CallBack
import Derived.Stop.IfaceNil
import GoSem.ClaimData
namespace Go.Proofs.Qxb6609029aFmt
open Go.Extern.Stop Go.Stop Go.Extern

theorem Tryf.call7 (args : Array Value) (w : World) : (callFunc 7 args).run Tryf.prog w = (FmtCalls.sprintf #[9, 64] #[9] args).run Tryf.prog w :=
  run_callFunc_next Tryf.func7 (by kernel_rfl) (by kernel_rfl) (by kernel_rfl) args w
theorem Tryf.guard (name : String) (w : World) : (FmtStop.guard name).run Tryf.prog w = .ok () w := by kernel_rfl
theorem Tryf.nextTurns : Extern.next FmtCalls.turnsRow = some (FmtCalls.begun #[] #[]) := by kernel_rfl
theorem Tryf.nextReturned : Extern.next FmtCalls.returnedRow = some (FmtCalls.returned #[] #[]) := by kernel_rfl

def fmtA : List UInt8 := [37, 100, 32, 105, 115, 32, 110, 111, 116, 32, 97, 32, 115, 105, 122, 101, 32, 102, 114, 111, 109, 32, 49, 32, 116, 111, 32, 37, 100, 32, 98, 121, 116, 101, 115]
theorem Tryf.fmtA2 : FmtStop.printed? ⟨#[37, 100, 32, 105, 115, 32, 110, 111, 116, 32, 97, 32, 115, 105, 122, 101, 32, 102, 114, 111, 109, 32, 49, 32, 116, 111, 32, 37, 100, 32, 98, 121, 116, 101, 115]⟩ 2 = some [(0, 100, false), (1, 100, false)] := by kernel_rfl
theorem Tryf.fmtB1 : FmtStop.printed? ⟨#[37, 100, 32, 105, 115, 32, 98, 101, 108, 111, 119, 32, 49]⟩ 1 = some [(0, 100, false)] := by kernel_rfl
theorem Tryf.fmtC1 : FmtStop.printed? ⟨#[37, 115, 32, 105, 115, 32, 110, 111, 116, 32, 97, 32, 112, 111, 115, 105, 116, 105, 118, 101, 32, 100, 117, 114, 97, 116, 105, 111, 110]⟩ 1 = some [(0, 115, false)] := by kernel_rfl

def Tryf.shape32 : List UInt8 := [5, 15, 0, 0, 0, 0, 0, 0, 0, 99, 111, 110, 102, 105, 103, 46, 66, 121, 116, 101, 83, 105, 122, 101]
theorem Tryf.act32_100 (name : String) (x : Value) (w : World) : (FmtCalls.act name false 100 false (.iface 32 x)).run Tryf.prog w = .ok (.closed false) w := by kernel_rfl
theorem Tryf.op32_100 (name : String) (x : Int) (w : World) : (FmtStop.operand name false 100 false (.iface 32 (.int .i64 x))).run Tryf.prog w = .ok (Tryf.shape32, Go.Extern.Stop.digits 8 (x % 2 ^ 64).toNat) w := by kernel_rfl
def Tryf.shape3 : List UInt8 := [5, 3, 0, 0, 0, 0, 0, 0, 0, 105, 110, 116]
theorem Tryf.act3_100 (name : String) (x : Value) (w : World) : (FmtCalls.act name false 100 false (.iface 3 x)).run Tryf.prog w = .ok (.closed false) w := by kernel_rfl
theorem Tryf.op3_100 (name : String) (x : Int) (w : World) : (FmtStop.operand name false 100 false (.iface 3 (.int .i64 x))).run Tryf.prog w = .ok (Tryf.shape3, Go.Extern.Stop.digits 8 (x % 2 ^ 64).toNat) w := by kernel_rfl
theorem Tryf.act33_115 (name : String) (x : Value) (w : World) : (FmtCalls.act name false 115 false (.iface 33 x)).run Tryf.prog w = .ok (.call false) w := by kernel_rfl
theorem Tryf.isString33 (w : World) : (FmtDoors.textMethod 33 "String").run Tryf.prog w = .ok true w := by kernel_rfl
theorem Tryf.invokeString33 (x : Value) (w : World) : (invoke (.fn (.method "String") #[]) #[.iface 33 x]).run Tryf.prog w = .ok (.enter 8 #[x]) w := by kernel_rfl
theorem Tryf.str33 (w : World) : (typeStr 33).run Tryf.prog w = .ok "time.Duration" w := by kernel_rfl

end Go.Proofs.Qxb6609029aFmt
