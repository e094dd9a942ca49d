/-
  THE CLOSED FACTS FOR A WALK OVER fmt.errorf (after the guide's CheckFmt.lean): what the format asks, what an int reads as, the error type that is made.
-/
import Derived.Test.Qxb6627528aFmtCards
import Derived.Stop.CallBack
import Derived.Stop.IfaceNil
import GoSem.ClaimData
import Derived.KernelRfl
namespace Go.Proofs.Qxb6627528aFmt
open Go.Extern.Stop Go.Stop Go.Extern

theorem call6 (args : Array Value) (w : World) : (callFunc 6 args).run Tryf.prog w = ((FmtStop.errorf #[9, 27] #[23] args).run Tryf.prog w).andThen fun v w' => .ok (.value v) w' :=
  run_callFunc_extern Tryf.func6 (by kernel_rfl) (by kernel_rfl) (by kernel_rfl) (by kernel_rfl) args w
theorem guard_ok (name : String) (w : World) : (FmtStop.guard name).run Tryf.prog w = .ok () w := by kernel_rfl
theorem fmt0 : FmtStop.printed? ⟨#[115, 101, 99, 116, 111, 114, 115, 32, 111, 102, 32, 37, 100, 32, 98, 121, 116, 101, 115, 44, 32, 119, 104, 101, 114, 101, 32, 116, 104, 101, 32, 108, 97, 121, 111, 117, 116, 32, 116, 97, 107, 101, 115, 32, 97, 32, 112, 111, 119, 101, 114, 32, 111, 102, 32, 116, 119, 111, 32, 102, 114, 111, 109, 32, 37, 100, 32, 116, 111, 32, 37, 100, 32, 98, 121, 116, 101, 115]⟩ 3 = some [(0, 100, false), (1, 100, false), (2, 100, false)] := by kernel_rfl
theorem fmt0r (w : World) : (FmtDoors.printed ⟨#[115, 101, 99, 116, 111, 114, 115, 32, 111, 102, 32, 37, 100, 32, 98, 121, 116, 101, 115, 44, 32, 119, 104, 101, 114, 101, 32, 116, 104, 101, 32, 108, 97, 121, 111, 117, 116, 32, 116, 97, 107, 101, 115, 32, 97, 32, 112, 111, 119, 101, 114, 32, 111, 102, 32, 116, 119, 111, 32, 102, 114, 111, 109, 32, 37, 100, 32, 116, 111, 32, 37, 100, 32, 98, 121, 116, 101, 115]⟩ 3).run Tryf.prog w = .ok [(0, 100, false), (1, 100, false), (2, 100, false)] w := by kernel_rfl
def shape3 : List UInt8 := [5, 3, 0, 0, 0, 0, 0, 0, 0, 105, 110, 116]
theorem op3_100 (name : String) (x : Int) (w : World) : (FmtStop.operand name false 100 false (.iface 3 (.int .i64 x))).run Tryf.prog w = .ok (shape3, Go.Extern.Stop.digits 8 (x % 2 ^ 64).toNat) w := by kernel_rfl
theorem op3_100w (name : String) (x : Int) (w : World) : (FmtStop.operand name true 100 false (.iface 3 (.int .i64 x))).run Tryf.prog w = .ok (shape3, Go.Extern.Stop.digits 8 (x % 2 ^ 64).toNat) w := by kernel_rfl
theorem strict3 (name : String) (x : Int) (w : World) : (FmtStop.strict name (.iface 3 (.int .i64 x))).run Tryf.prog w = .ok (shape3, Go.Extern.Stop.digits 8 (x % 2 ^ 64).toNat) w := by kernel_rfl
theorem ptr30 (w : World) : (FmtStop.ptrTo "errors.errorString").run Tryf.prog w = .ok 30 w := by kernel_rfl
theorem elem30 (w : World) : (elemOf 30).run Tryf.prog w = .ok 32 w := by kernel_rfl
theorem isError30 (w : World) : (FmtDoors.textMethod 30 "Error").run Tryf.prog w = .ok true w := by kernel_rfl
end Go.Proofs.Qxb6627528aFmt
