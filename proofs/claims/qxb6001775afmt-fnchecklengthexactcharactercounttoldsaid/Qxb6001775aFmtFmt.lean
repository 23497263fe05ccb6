/- Closed facts on fmt.errorf at this program: the format, the one operand (an int), the error type that it makes. -/
import Derived.Test.Qxb6001775aFmtProg
import Derived.Stop.CallBack
import Derived.Stop.IfaceNil
import GoSem.ClaimData
namespace Go.Proofs.Qxb6001775aFmt
open Go.Extern.Stop Go.Stop Go.Extern

theorem call15 (args : Array Value) (w : World) : (callFunc 15 args).run Tryf.prog w = ((FmtStop.errorf #[9, 30] #[24] args).run Tryf.prog w).andThen fun v w' => .ok (.value v) w' :=
  run_callFunc_extern Tryf.func15 (by kernel_rfl) (by kernel_rfl) (by kernel_rfl) (by kernel_rfl) args w
theorem guardE (name : String) (w : World) : (FmtStop.guard name).run Tryf.prog w = .ok () w := by kernel_rfl
theorem fmt0 : FmtStop.printed? ⟨#[105, 115, 32, 108, 111, 110, 103, 101, 114, 32, 116, 104, 97, 110, 32, 97, 32, 110, 117, 109, 98, 101, 114, 32, 105, 110, 32, 97, 32, 112, 108, 97, 110, 32, 102, 105, 108, 101, 44, 32, 97, 116, 32, 109, 111, 115, 116, 32, 37, 100]⟩ 1 = some [(0, 100, false)] := by kernel_rfl
theorem fmt0r (w : World) : (FmtDoors.printed ⟨#[105, 115, 32, 108, 111, 110, 103, 101, 114, 32, 116, 104, 97, 110, 32, 97, 32, 110, 117, 109, 98, 101, 114, 32, 105, 110, 32, 97, 32, 112, 108, 97, 110, 32, 102, 105, 108, 101, 44, 32, 97, 116, 32, 109, 111, 115, 116, 32, 37, 100]⟩ 1).run Tryf.prog w = .ok [(0, 100, false)] w := by kernel_rfl
def shape3 : List UInt8 := [5, 3, 0, 0, 0, 0, 0, 0, 0, 105, 110, 116]
theorem op3_100 (name : String) (x : Int) (w : World) : (FmtStop.operand name false 100 false (.iface 3 (.int .i64 x))).run Tryf.prog w = .ok (shape3, Go.Extern.Stop.digits 8 (x % 2 ^ 64).toNat) w := by kernel_rfl
theorem op3_100w (name : String) (x : Int) (w : World) : (FmtStop.operand name true 100 false (.iface 3 (.int .i64 x))).run Tryf.prog w = .ok (shape3, Go.Extern.Stop.digits 8 (x % 2 ^ 64).toNat) w := by kernel_rfl
theorem ptr32 (w : World) : (FmtStop.ptrTo "errors.errorString").run Tryf.prog w = .ok 32 w := by kernel_rfl
theorem elem32 (w : World) : (elemOf 32).run Tryf.prog w = .ok 34 w := by kernel_rfl
theorem isError32 (w : World) : (FmtDoors.textMethod 32 "Error").run Tryf.prog w = .ok true w := by kernel_rfl
end Go.Proofs.Qxb6001775aFmt
