/-
  THE CLOSED FACTS FOR A WALK OVER THE STOPPED fmt.errorf, typed after the guide's worked fact files: each by the kernel's own evaluation.
-/
import Derived.Test.Qxb6630343aFmtCards
import Derived.Stop.CallBack
import Derived.Stop.IfaceNil
import Derived.WalkKit
import Derived.WalkSpells
import Derived.WalkLawsBesides
import GoSem.ClaimData
namespace Go.Proofs.Qxb6630343aFmt
open Go.Extern.Stop Go.Stop Go.Extern

theorem Tryf.call10 (args : Array Value) (w : World) : (callFunc 10 args).run Tryf.prog w = ((FmtStop.errorf #[9, 31] #[24] args).run Tryf.prog w).andThen fun v w' => .ok (.value v) w' :=
  run_callFunc_extern Tryf.func10 (by kernel_rfl) (by kernel_rfl) (by kernel_rfl) (by kernel_rfl) args w
theorem Tryf.guard (name : String) (w : World) : (FmtStop.guard name).run Tryf.prog w = .ok () w := by kernel_rfl
theorem Tryf.fmt0 : FmtStop.printed? ⟨#[99, 111, 110, 116, 114, 111, 108, 95, 115, 111, 99, 107, 101, 116, 32, 105, 115, 32, 97, 32, 112, 97, 116, 104, 32, 111, 102, 32, 37, 100, 32, 98, 121, 116, 101, 115, 44, 32, 109, 111, 114, 101, 32, 116, 104, 97, 110, 32, 116, 104, 101, 32, 37, 100, 32, 116, 104, 97, 116, 32, 76, 105, 110, 117, 120, 32, 98, 105, 110, 100, 115, 32, 97, 32, 85, 110, 105, 120, 32, 115, 111, 99, 107, 101, 116, 32, 97, 116, 59, 32, 99, 104, 111, 111, 115, 101, 32, 97, 32, 115, 104, 111, 114, 116, 101, 114, 32, 111, 110, 101, 44, 32, 97, 115, 32, 105, 110, 32, 47, 114, 117, 110, 47, 107, 101, 121, 119, 97, 114, 100, 47, 99, 111, 110, 116, 114, 111, 108, 46, 115, 111, 99, 107]⟩ 2 = some [(0, 100, false), (1, 100, false)] := by kernel_rfl
theorem Tryf.fmt0r (w : World) : (FmtDoors.printed ⟨#[99, 111, 110, 116, 114, 111, 108, 95, 115, 111, 99, 107, 101, 116, 32, 105, 115, 32, 97, 32, 112, 97, 116, 104, 32, 111, 102, 32, 37, 100, 32, 98, 121, 116, 101, 115, 44, 32, 109, 111, 114, 101, 32, 116, 104, 97, 110, 32, 116, 104, 101, 32, 37, 100, 32, 116, 104, 97, 116, 32, 76, 105, 110, 117, 120, 32, 98, 105, 110, 100, 115, 32, 97, 32, 85, 110, 105, 120, 32, 115, 111, 99, 107, 101, 116, 32, 97, 116, 59, 32, 99, 104, 111, 111, 115, 101, 32, 97, 32, 115, 104, 111, 114, 116, 101, 114, 32, 111, 110, 101, 44, 32, 97, 115, 32, 105, 110, 32, 47, 114, 117, 110, 47, 107, 101, 121, 119, 97, 114, 100, 47, 99, 111, 110, 116, 114, 111, 108, 46, 115, 111, 99, 107]⟩ 2).run Tryf.prog w = .ok [(0, 100, false), (1, 100, false)] w := by kernel_rfl
def Tryf.shape3 : List UInt8 := [5, 3, 0, 0, 0, 0, 0, 0, 0, 105, 110, 116]
theorem Tryf.op3_100 (name : String) (x : Int) (w : World) : (FmtStop.operand name false 100 false (.iface 3 (.int .i64 x))).run Tryf.prog w = .ok (Tryf.shape3, Go.Extern.Stop.digits 8 (x % 2 ^ 64).toNat) w := by kernel_rfl
theorem Tryf.op3_100w (name : String) (x : Int) (w : World) : (FmtStop.operand name true 100 false (.iface 3 (.int .i64 x))).run Tryf.prog w = .ok (Tryf.shape3, Go.Extern.Stop.digits 8 (x % 2 ^ 64).toNat) w := by kernel_rfl
theorem Tryf.ptr28 (w : World) : (FmtStop.ptrTo "errors.errorString").run Tryf.prog w = .ok 28 w := by kernel_rfl
theorem Tryf.elem28 (w : World) : (elemOf 28).run Tryf.prog w = .ok 30 w := by kernel_rfl
theorem Tryf.isError28' (w : World) : (FmtDoors.textMethod 28 "Error").run Tryf.prog w = .ok true w := by kernel_rfl
theorem Tryf.ptr32 (w : World) : (FmtStop.ptrTo "fmt.wrapError").run Tryf.prog w = .ok 32 w := by kernel_rfl
theorem Tryf.elem32 (w : World) : (elemOf 32).run Tryf.prog w = .ok 50 w := by kernel_rfl

end Go.Proofs.Qxb6630343aFmt
