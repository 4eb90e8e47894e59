/-
  Seat b6615733aF: the closed facts for a walk over fmt.Sprintf's calling stop, at this program.
-/
import Derived.Test.Qxb6615733aFmtRows
import Derived.Stop.CallBack
import Derived.Stop.IfaceNil
import GoSem.ClaimData
namespace Go.Proofs.Qxb6615733aFmt
open Go.Extern.Stop Go.Stop Go.Extern

@[go_sem] theorem call20 (args : Array Value) (w : World) : (callFunc 20 args).run Tryf.prog w = (FmtCalls.sprintf #[9, 99] #[9] args).run Tryf.prog w :=
  run_callFunc_next Tryf.func20 (by kernel_rfl) (by kernel_rfl) (by kernel_rfl) args w
@[go_sem] theorem fguard (name : String) (w : World) : (FmtStop.guard name).run Tryf.prog w = .ok () w := by kernel_rfl
theorem nextTurns : Extern.next FmtCalls.turnsRow = some (FmtCalls.begun #[] #[]) := by kernel_rfl
theorem nextReturned : Extern.next FmtCalls.returnedRow = some (FmtCalls.returned #[] #[]) := by kernel_rfl
@[go_sem] theorem fmt0 : FmtStop.printed? ⟨#[110, 111, 100, 101, 32, 37, 115, 32, 97, 116, 32, 37, 115, 58, 32, 37, 118]⟩ 3 = some [(0, 115, false), (1, 115, false), (2, 118, false)] := by kernel_rfl
@[go_sem] theorem fmt0r (w : World) : (FmtDoors.printed ⟨#[110, 111, 100, 101, 32, 37, 115, 32, 97, 116, 32, 37, 115, 58, 32, 37, 118]⟩ 3).run Tryf.prog w = .ok [(0, 115, false), (1, 115, false), (2, 118, false)] w := by kernel_rfl
def shape9 : List UInt8 := [12, 6, 0, 0, 0, 0, 0, 0, 0, 115, 116, 114, 105, 110, 103]
@[go_sem] theorem act9_115 (name : String) (x : Value) (w : World) : (FmtCalls.act name false 115 false (.iface 9 x)).run Tryf.prog w = .ok (.closed false) w := by kernel_rfl
@[go_sem] theorem op9_115 (name : String) (x : ByteArray) (w : World) : (FmtStop.operand name false 115 false (.iface 9 (.string x))).run Tryf.prog w = .ok (shape9, FmtStop.pack x.data.toList) w := by kernel_rfl
@[go_sem] theorem act9_118 (name : String) (x : Value) (w : World) : (FmtCalls.act name false 118 false (.iface 9 x)).run Tryf.prog w = .ok (.closed false) w := by kernel_rfl
@[go_sem] theorem op9_118 (name : String) (x : ByteArray) (w : World) : (FmtStop.operand name false 118 false (.iface 9 (.string x))).run Tryf.prog w = .ok (shape9, FmtStop.pack x.data.toList) w := by kernel_rfl
@[go_sem] theorem str9 (w : World) : (typeStr 9).run Tryf.prog w = .ok "string" w := by kernel_rfl
@[go_sem] theorem act73_118 (name : String) (x : Value) (w : World) : (FmtCalls.act name false 118 false (.iface 73 x)).run Tryf.prog w = .ok (.call true) w := by kernel_rfl
@[go_sem] theorem isError73 (w : World) : (FmtDoors.textMethod 73 "Error").run Tryf.prog w = .ok true w := by kernel_rfl
theorem invokeError73 (x : Value) (w : World) : (invoke (.fn (.method "Error") #[]) #[.iface 73 x]).run Tryf.prog w = .ok (.enter 57 #[x]) w := by kernel_rfl
@[go_sem] theorem str73 (w : World) : (typeStr 73).run Tryf.prog w = .ok "*api.Error" w := by kernel_rfl
end Go.Proofs.Qxb6615733aFmt
