/-
  THE CLOSED FACTS FOR A WALK OVER fmt.Sprintf's STOP at this dump (after the kit's worked LabelFmt): each by the kernel's own evaluation.
-/
import Derived.Test.Qxb6630593aFmtRows
import Derived.Stop.CallBack
import Derived.Stop.IfaceNil
import Derived.WalkKit
namespace Go.Proofs.Qxb6630593aFmt
open Go.Extern.Stop Go.Stop Go.Extern

@[go_sem] theorem call11 (args : Array Value) (w : World) : (callFunc 11 args).run Tryf.prog w = ((FmtStop.sprintf #[9, 51] #[9] args).run Tryf.prog w).andThen fun v w' => .ok (.value v) w' :=
  run_callFunc_extern Tryf.func11 (by kernel_rfl) (by kernel_rfl) (by kernel_rfl) (by kernel_rfl) args w
@[go_sem] theorem guardF (name : String) (w : World) : (FmtStop.guard name).run Tryf.prog w = .ok () w := by kernel_rfl
@[go_sem] theorem fmt0 : FmtStop.printed? ⟨#[109, 117, 115, 116, 32, 98, 101, 32, 49, 32, 116, 111, 32, 37, 100, 32, 98, 121, 116, 101, 115, 32, 108, 111, 110, 103, 44, 32, 110, 111, 116, 32, 37, 100]⟩ 2 = some [(0, 100, false), (1, 100, false)] := by kernel_rfl
@[go_sem] theorem fmt0r (w : World) : (FmtDoors.printed ⟨#[109, 117, 115, 116, 32, 98, 101, 32, 49, 32, 116, 111, 32, 37, 100, 32, 98, 121, 116, 101, 115, 32, 108, 111, 110, 103, 44, 32, 110, 111, 116, 32, 37, 100]⟩ 2).run Tryf.prog w = .ok [(0, 100, false), (1, 100, false)] w := by kernel_rfl
def shape3 : List UInt8 := [5, 3, 0, 0, 0, 0, 0, 0, 0, 105, 110, 116]
@[go_sem] theorem op3_100 (name : String) (x : Int) (w : World) : (FmtStop.operand name false 100 false (.iface 3 (.int .i64 x))).run Tryf.prog w = .ok (shape3, Go.Extern.Stop.digits 8 (x % 2 ^ 64).toNat) w := by kernel_rfl
end Go.Proofs.Qxb6630593aFmt
