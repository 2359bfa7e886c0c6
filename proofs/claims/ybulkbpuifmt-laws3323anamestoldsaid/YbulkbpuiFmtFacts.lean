/-
  The closed facts for a walk over fmt.Sprintf (a stop that calls), at this program's numbers; after the guide's LevelsFmt text.
-/
import Derived.Test.YbulkbpuiFmtProg
import Derived.Stop.CallBack
import Derived.Stop.IfaceNil
import Derived.Stop.FmtTextLaws
import GoSem.ClaimData
namespace Go.Proofs.YbulkbpuiFmt
open Go.Extern.Stop Go.Stop Go.Extern

theorem call6 (args : Array Value) (w : World) : (callFunc 6 args).run Ybaf.prog w = (FmtCalls.sprintf #[9, 44] #[9] args).run Ybaf.prog w :=
  run_callFunc_next Ybaf.func6 (by kernel_rfl) (by kernel_rfl) (by kernel_rfl) args w
theorem guard6 (name : String) (w : World) : (FmtStop.guard name).run Ybaf.prog w = .ok () w := by kernel_rfl
theorem nextTurns : Extern.next FmtCalls.turnsRow = some (FmtCalls.begun #[] #[]) := by kernel_rfl
theorem nextReturned : Extern.next FmtCalls.returnedRow = some (FmtCalls.returned #[] #[]) := by kernel_rfl
theorem fmtOp : FmtStop.printed? ⟨#[79, 112, 40, 37, 100, 41]⟩ 1 = some [(0, 100, false)] := by kernel_rfl
theorem fmtOpr (w : World) : (FmtDoors.printed ⟨#[79, 112, 40, 37, 100, 41]⟩ 1).run Ybaf.prog w = .ok [(0, 100, false)] w := by kernel_rfl
def shape22 : List UInt8 := [6, 12, 0, 0, 0, 0, 0, 0, 0, 116, 114, 101, 101, 108, 97, 116, 99, 104, 46, 79, 112]
theorem act22_100 (name : String) (x : Value) (w : World) : (FmtCalls.act name false 100 false (.iface 22 x)).run Ybaf.prog w = .ok (.closed false) w := by kernel_rfl
theorem op22_100 (name : String) (x : Int) (w : World) : (FmtStop.operand name false 100 false (.iface 22 (.int .u8 x))).run Ybaf.prog w = .ok (shape22, Go.Extern.Stop.digits 8 (x % 2 ^ 64).toNat) w := by kernel_rfl
end Go.Proofs.YbulkbpuiFmt
