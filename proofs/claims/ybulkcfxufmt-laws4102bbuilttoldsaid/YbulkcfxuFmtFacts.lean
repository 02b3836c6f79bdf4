/-
  Closed facts for the walk over fmt.errorf, the one stopped function of this program: what its parsing of the one literal format gives, what each operand reads as, the two error types that it makes. And fmt.Errorf by a contract, at that format and those operands.
-/
import Derived.Test.YbulkcfxuFmtProg
import Derived.WalkKit
import Derived.WalkSpells
import Derived.Stop.CallBack
import Derived.Stop.IfaceNil
import Derived.Stop.LaidErr
namespace Go.Proofs.YbulkcfxuFmt
open Go.RowKit Go.Extern.Stop Go.Stop Go.Extern

theorem Ybaf.call14 (args : Array Value) (w : World) : (callFunc 14 args).run Ybaf.prog w = ((FmtStop.errorf #[9, 44] #[28] args).run Ybaf.prog w).andThen fun v w' => .ok (.value v) w' :=
  run_callFunc_extern Ybaf.func14 (by kernel_rfl) (by kernel_rfl) (by kernel_rfl) (by kernel_rfl) args w
theorem Ybaf.guard (name : String) (w : World) : (FmtStop.guard name).run Ybaf.prog w = .ok () w := by kernel_rfl
theorem Ybaf.fmt0 : FmtStop.printed? ⟨#[37, 119, 32, 37, 100, 46, 37, 100, 32, 40, 116, 104, 105, 115, 32, 98, 117, 105, 108, 100, 32, 114, 101, 97, 100, 115, 32, 117, 112, 32, 116, 111, 32, 37, 100, 46, 37, 100, 41]⟩ 5 = some [(0, 119, false), (1, 100, false), (2, 100, false), (3, 100, false), (4, 100, false)] := by kernel_rfl
theorem Ybaf.fmt0r (w : World) : (FmtDoors.printed ⟨#[37, 119, 32, 37, 100, 46, 37, 100, 32, 40, 116, 104, 105, 115, 32, 98, 117, 105, 108, 100, 32, 114, 101, 97, 100, 115, 32, 117, 112, 32, 116, 111, 32, 37, 100, 46, 37, 100, 41]⟩ 5).run Ybaf.prog w = .ok [(0, 119, false), (1, 100, false), (2, 100, false), (3, 100, false), (4, 100, false)] w := by kernel_rfl
def Ybaf.shape3 : List UInt8 := [5, 3, 0, 0, 0, 0, 0, 0, 0, 105, 110, 116]
theorem Ybaf.op3_100w (name : String) (x : Int) (w : World) : (FmtStop.operand name true 100 false (.iface 3 (.int .i64 x))).run Ybaf.prog w = .ok (Ybaf.shape3, Go.Extern.Stop.digits 8 (x % 2 ^ 64).toNat) w := by kernel_rfl
def Ybaf.shape24 : List UInt8 := [7, 6, 0, 0, 0, 0, 0, 0, 0, 117, 105, 110, 116, 49, 54]
theorem Ybaf.op24_100w (name : String) (x : Int) (w : World) : (FmtStop.operand name true 100 false (.iface 24 (.int .u16 x))).run Ybaf.prog w = .ok (Ybaf.shape24, Go.Extern.Stop.digits 8 (x % 2 ^ 64).toNat) w := by kernel_rfl
theorem Ybaf.ptr58 (w : World) : (FmtStop.ptrTo "errors.errorString").run Ybaf.prog w = .ok 58 w := by kernel_rfl
theorem Ybaf.elem58 (w : World) : (elemOf 58).run Ybaf.prog w = .ok 60 w := by kernel_rfl
theorem Ybaf.isError58 (w : World) : (FmtDoors.textMethod 58 "Error").run Ybaf.prog w = .ok true w := by kernel_rfl
theorem Ybaf.ptr46 (w : World) : (FmtStop.ptrTo "fmt.wrapError").run Ybaf.prog w = .ok 46 w := by kernel_rfl
theorem Ybaf.elem46 (w : World) : (elemOf 46).run Ybaf.prog w = .ok 85 w := by kernel_rfl
theorem Ybaf.isError46 (w : World) : (FmtDoors.textMethod 46 "Error").run Ybaf.prog w = .ok true w := by kernel_rfl
end Go.Proofs.YbulkcfxuFmt
