/- THE CLOSED FACTS FOR A WALK OVER fmt's STOPPED FRONT at this program (after the guide's worked families), each by the kernel's own evaluation. -/
import Derived.Test.YbulkesaiFmtRows
import Derived.Stop.CallBack
import Derived.Stop.IfaceNil
import GoSem.ClaimData
namespace Go.Proofs.YbulkesaiFmt
open Go.Extern.Stop Go.Stop Go.Extern

theorem Ybaf.call22 (args : Array Value) (w : World) : (callFunc 22 args).run Ybaf.prog w = ((FmtStop.errorf #[9, 66] #[40] args).run Ybaf.prog w).andThen fun v w' => .ok (.value v) w' :=
  run_callFunc_extern Ybaf.func22 (by kernel_rfl) (by kernel_rfl) (by kernel_rfl) (by kernel_rfl) args w
theorem Ybaf.guard (name : String) (w : World) : (FmtStop.guard name).run Ybaf.prog w = .ok () w := by kernel_rfl
theorem Ybaf.fmt0 : FmtStop.printed? ⟨#[37, 100, 32, 98, 105, 116, 115, 32, 119, 97, 110, 116, 101, 100, 44, 32, 37, 100, 32, 108, 101, 102, 116]⟩ 2 = some [(0, 100, false), (1, 100, false)] := by kernel_rfl
theorem Ybaf.fmt0r (w : World) : (FmtDoors.printed ⟨#[37, 100, 32, 98, 105, 116, 115, 32, 119, 97, 110, 116, 101, 100, 44, 32, 37, 100, 32, 108, 101, 102, 116]⟩ 2).run Ybaf.prog w = .ok [(0, 100, false), (1, 100, false)] w := by kernel_rfl
def Ybaf.shape3 : List UInt8 := [5, 3, 0, 0, 0, 0, 0, 0, 0, 105, 110, 116]
theorem Ybaf.op3_100w (name : String) (x : Int) (w : World) : (FmtStop.operand name true 100 false (.iface 3 (.int .i64 x))).run Ybaf.prog w = .ok (Ybaf.shape3, Go.Extern.Stop.digits 8 (x % 2 ^ 64).toNat) w := by kernel_rfl
theorem Ybaf.ptr81 (w : World) : (FmtStop.ptrTo "errors.errorString").run Ybaf.prog w = .ok 81 w := by kernel_rfl
theorem Ybaf.elem81 (w : World) : (elemOf 81).run Ybaf.prog w = .ok 83 w := by kernel_rfl
theorem Ybaf.isError81 (w : World) : (FmtDoors.textMethod 81 "Error").run Ybaf.prog w = .ok true w := by kernel_rfl
end Go.Proofs.YbulkesaiFmt
