/-
  The closed facts for the walks over fmt's stop at "no error-tag %d" (after the worked HexbadFmt). Each by the kernel's own evaluation.
-/
import Derived.Test.YbulkdaekFmtRows
import Derived.Stop.CallBack
import Derived.Stop.IfaceNil
import GoSem.ClaimData
namespace Go.Proofs.YbulkdaekFmt
open Go.Extern.Stop Go.Stop Go.Extern

theorem call9 (args : Array Value) (w : World) : (callFunc 9 args).run Ybaf.prog w = (FmtCalls.errorf #[9, 34] #[25] args).run Ybaf.prog w :=
  run_callFunc_next Ybaf.func9 (by kernel_rfl) (by kernel_rfl) (by kernel_rfl) args w
theorem guard9 (name : String) (w : World) : (FmtStop.guard name).run Ybaf.prog w = .ok () w := by kernel_rfl
theorem nextTurns : Extern.next FmtCalls.turnsRow = some (FmtCalls.begun #[] #[]) := by kernel_rfl
theorem nextReturned : Extern.next FmtCalls.returnedRow = some (FmtCalls.returned #[] #[]) := by kernel_rfl
-- "no error-tag %d"
theorem fmt0 : FmtStop.printed? ⟨#[110, 111, 32, 101, 114, 114, 111, 114, 45, 116, 97, 103, 32, 37, 100]⟩ 1 = some [(0, 100, false)] := by kernel_rfl
theorem fmt0r (w : World) : (FmtDoors.printed ⟨#[110, 111, 32, 101, 114, 114, 111, 114, 45, 116, 97, 103, 32, 37, 100]⟩ 1).run Ybaf.prog w = .ok [(0, 100, false)] w := by kernel_rfl
theorem act22_100w (name : String) (x : Value) (w : World) : (FmtCalls.act name true 100 false (.iface 22 x)).run Ybaf.prog w = .ok (.closed true) w := by kernel_rfl
def shape22 : List UInt8 := [6, 13, 0, 0, 0, 0, 0, 0, 0, 108, 109, 97, 112, 46, 69, 114, 114, 111, 114, 84, 97, 103]
theorem op22_100w (name : String) (x : Int) (w : World) : (FmtStop.operand name true 100 false (.iface 22 (.int .u8 x))).run Ybaf.prog w = .ok (shape22, Go.Extern.Stop.digits 8 (x % 2 ^ 64).toNat) w := by kernel_rfl
theorem ptrErr (w : World) : (FmtStop.ptrTo "errors.errorString").run Ybaf.prog w = .ok 37 w := by kernel_rfl
theorem elemErr (w : World) : (elemOf 37).run Ybaf.prog w = .ok 39 w := by kernel_rfl
end Go.Proofs.YbulkdaekFmt
