/-
  Seat b0617aF. CLOSED FACTS FOR A WALK OVER fmt's STOPPED FRONT fmt.errorf (after the guide's CheckFmt.lean, turned to this dump): function 17; the two literal formats of wholeNumber.read; how a string (type 9) and an int64 (type 2) read as operands; the error type that it makes. Each by the kernel.
-/
import Derived.Test.YbulkltgFmtRows
import Derived.WalkKit
import Derived.WalkSpells
import Derived.WalkLawsBesides
import Derived.Stop.CallBack
import Derived.Stop.IfaceNil
import GoSem.ClaimData
namespace Go.Proofs.YbulkltgFmt
open Go.Extern.Stop Go.Stop Go.Extern

theorem call17 (args : Array Value) (w : World) : (callFunc 17 args).run Ybaf.prog w = ((FmtStop.errorf #[9, 53] #[34] args).run Ybaf.prog w).andThen fun v w' => .ok (.value v) w' :=
  run_callFunc_extern Ybaf.func17 (by kernel_rfl) (by kernel_rfl) (by kernel_rfl) (by kernel_rfl) args w

theorem guard (name : String) (w : World) : (FmtStop.guard name).run Ybaf.prog w = .ok () w := by kernel_rfl

theorem fmt0 : FmtStop.printed? ⟨#[37, 115, 32, 105, 115, 32, 109, 105, 115, 115, 105, 110, 103]⟩ 1 = some [(0, 115, false)] := by kernel_rfl
theorem fmt0r (w : World) : (FmtDoors.printed ⟨#[37, 115, 32, 105, 115, 32, 109, 105, 115, 115, 105, 110, 103]⟩ 1).run Ybaf.prog w = .ok [(0, 115, false)] w := by kernel_rfl
theorem fmt1 : FmtStop.printed? ⟨#[37, 115, 32, 37, 100, 32, 105, 115, 32, 111, 117, 116, 115, 105, 100, 101, 32, 37, 100, 45, 37, 100]⟩ 4 = some [(0, 115, false), (1, 100, false), (2, 100, false), (3, 100, false)] := by kernel_rfl
theorem fmt1r (w : World) : (FmtDoors.printed ⟨#[37, 115, 32, 37, 100, 32, 105, 115, 32, 111, 117, 116, 115, 105, 100, 101, 32, 37, 100, 45, 37, 100]⟩ 4).run Ybaf.prog w = .ok [(0, 115, false), (1, 100, false), (2, 100, false), (3, 100, false)] w := by kernel_rfl

def shape9 : List UInt8 := [12, 6, 0, 0, 0, 0, 0, 0, 0, 115, 116, 114, 105, 110, 103]
theorem op9_115w (name : String) (x : ByteArray) (w : World) : (FmtStop.operand name true 115 false (.iface 9 (.string x))).run Ybaf.prog w = .ok (shape9, FmtStop.pack x.data.toList) w := by kernel_rfl
def shape2 : List UInt8 := [5, 5, 0, 0, 0, 0, 0, 0, 0, 105, 110, 116, 54, 52]
theorem op2_100w (name : String) (x : Int) (w : World) : (FmtStop.operand name true 100 false (.iface 2 (.int .i64 x))).run Ybaf.prog w = .ok (shape2, Go.Extern.Stop.digits 8 (x % 2 ^ 64).toNat) w := by kernel_rfl

theorem ptr58 (w : World) : (FmtStop.ptrTo "errors.errorString").run Ybaf.prog w = .ok 58 w := by kernel_rfl
theorem elem58 (w : World) : (elemOf 58).run Ybaf.prog w = .ok 60 w := by kernel_rfl

end Go.Proofs.YbulkltgFmt
