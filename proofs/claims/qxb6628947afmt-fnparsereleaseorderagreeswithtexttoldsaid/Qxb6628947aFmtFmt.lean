/-
  THE CLOSED FACTS FOR A WALK OVER fmt.Errorf's STOP at this dump (after the kit's worked CheckFmt): each by the kernel's own evaluation.
-/
import Derived.Test.Qxb6628947aFmtRows
import Derived.Stop.CallBack
import Derived.Stop.IfaceNil
import Derived.WalkKit
namespace Go.Proofs.Qxb6628947aFmt
open Go.Extern.Stop Go.Stop Go.Extern

@[go_sem] theorem call16 (args : Array Value) (w : World) : (callFunc 16 args).run Tryf.prog w = ((FmtStop.errorf #[9, 35] #[24] args).run Tryf.prog w).andThen fun v w' => .ok (.value v) w' :=
  run_callFunc_extern Tryf.func16 (by kernel_rfl) (by kernel_rfl) (by kernel_rfl) (by kernel_rfl) args w
@[go_sem] theorem guardF (name : String) (w : World) : (FmtStop.guard name).run Tryf.prog w = .ok () w := by kernel_rfl
@[go_sem] theorem fmt0 : FmtStop.printed? ⟨#[105, 110, 118, 97, 108, 105, 100, 32, 71, 111, 32, 114, 101, 108, 101, 97, 115, 101, 32, 37, 113, 58, 32, 119, 97, 110, 116, 32, 49, 46, 78, 44, 32, 115, 117, 99, 104, 32, 97, 115, 32, 49, 46, 50, 54]⟩ 1 = some [(0, 113, false)] := by kernel_rfl
@[go_sem] theorem fmt0r (w : World) : (FmtDoors.printed ⟨#[105, 110, 118, 97, 108, 105, 100, 32, 71, 111, 32, 114, 101, 108, 101, 97, 115, 101, 32, 37, 113, 58, 32, 119, 97, 110, 116, 32, 49, 46, 78, 44, 32, 115, 117, 99, 104, 32, 97, 115, 32, 49, 46, 50, 54]⟩ 1).run Tryf.prog w = .ok [(0, 113, false)] w := by kernel_rfl
def shape9 : List UInt8 := [12, 6, 0, 0, 0, 0, 0, 0, 0, 115, 116, 114, 105, 110, 103]
@[go_sem] theorem op9_113 (name : String) (x : ByteArray) (w : World) : (FmtStop.operand name false 113 false (.iface 9 (.string x))).run Tryf.prog w = .ok (shape9, FmtStop.pack x.data.toList) w := by kernel_rfl
@[go_sem] theorem op9_113w (name : String) (x : ByteArray) (w : World) : (FmtStop.operand name true 113 false (.iface 9 (.string x))).run Tryf.prog w = .ok (shape9, FmtStop.pack x.data.toList) w := by kernel_rfl
@[go_sem] theorem ptr39 (w : World) : (FmtStop.ptrTo "errors.errorString").run Tryf.prog w = .ok 39 w := by kernel_rfl
@[go_sem] theorem elem39 (w : World) : (elemOf 39).run Tryf.prog w = .ok 41 w := by kernel_rfl
@[go_sem] theorem isError39 (w : World) : (FmtDoors.textMethod 39 "Error").run Tryf.prog w = .ok true w := by kernel_rfl
end Go.Proofs.Qxb6628947aFmt
