/-
  The closed facts for a walk over fmt.errorf at this program: each by the kernel's own evaluation.
-/
import Derived.Test.Qxb6617047aFmtProg
import Derived.Stop.CallBack
import Derived.Stop.IfaceNil
import GoSem.ClaimData
namespace Go.Proofs.Qxb6617047aFmt.burst
open Go.Extern.Stop Go.Stop Go.Extern

theorem call12 (args : Array Value) (w : World) : (callFunc 12 args).run Tryf.prog w = ((FmtStop.errorf #[9, 34] #[24] args).run Tryf.prog w).andThen fun v w' => .ok (.value v) w' :=
  run_callFunc_extern Tryf.func12 (by kernel_rfl) (by kernel_rfl) (by kernel_rfl) (by kernel_rfl) args w

theorem guard (name : String) (w : World) : (FmtStop.guard name).run Tryf.prog w = .ok () w := by kernel_rfl

theorem fmt0 : FmtStop.printed? ⟨#[117, 112, 112, 101, 114, 98, 111, 117, 110, 100, 58, 32, 112, 111, 108, 105, 99, 121, 32, 98, 117, 114, 115, 116, 32, 37, 100, 32, 105, 115, 32, 98, 101, 108, 111, 119, 32, 122, 101, 114, 111]⟩ 1 = some [(0, 100, false)] := by kernel_rfl
theorem fmt0r (w : World) : (FmtDoors.printed ⟨#[117, 112, 112, 101, 114, 98, 111, 117, 110, 100, 58, 32, 112, 111, 108, 105, 99, 121, 32, 98, 117, 114, 115, 116, 32, 37, 100, 32, 105, 115, 32, 98, 101, 108, 111, 119, 32, 122, 101, 114, 111]⟩ 1).run Tryf.prog w = .ok [(0, 100, false)] w := by kernel_rfl

def shape3 : List UInt8 := [5, 3, 0, 0, 0, 0, 0, 0, 0, 105, 110, 116]
theorem op3_100 (name : String) (x : Int) (w : World) : (FmtStop.operand name false 100 false (.iface 3 (.int .i64 x))).run Tryf.prog w = .ok (shape3, Go.Extern.Stop.digits 8 (x % 2 ^ 64).toNat) w := by kernel_rfl
theorem op3_100w (name : String) (x : Int) (w : World) : (FmtStop.operand name true 100 false (.iface 3 (.int .i64 x))).run Tryf.prog w = .ok (shape3, Go.Extern.Stop.digits 8 (x % 2 ^ 64).toNat) w := by kernel_rfl
theorem strict3 (name : String) (x : Int) (w : World) : (FmtStop.strict name (.iface 3 (.int .i64 x))).run Tryf.prog w = .ok (shape3, Go.Extern.Stop.digits 8 (x % 2 ^ 64).toNat) w := by kernel_rfl

theorem ptr37 (w : World) : (FmtStop.ptrTo "errors.errorString").run Tryf.prog w = .ok 37 w := by kernel_rfl
theorem elem37 (w : World) : (elemOf 37).run Tryf.prog w = .ok 39 w := by kernel_rfl
theorem isError37 (w : World) : (FmtDoors.textMethod 37 "Error").run Tryf.prog w = .ok true w := by kernel_rfl
end Go.Proofs.Qxb6617047aFmt.burst
