/- The closed facts for a walk over fmt's stopped front in this translation (each by the kernel's own evaluation). -/
import Derived.Test.YbulkfkdmFmtRows
import Derived.Stop.CallBack
import Derived.Stop.IfaceNil
import GoSem.ClaimData
import Derived.WalkKit
namespace Go.Proofs.YbulkfkdmFmt
open Go.Extern.Stop Go.Stop Go.Extern

theorem call6 (args : Array Value) (w : World) : (callFunc 6 args).run Ybaf.prog w = ((FmtStop.errorf #[9, 38] #[32] args).run Ybaf.prog w).andThen fun v w' => .ok (.value v) w' :=
  run_callFunc_extern Ybaf.func6 (by kernel_rfl) (by kernel_rfl) (by kernel_rfl) (by kernel_rfl) args w
theorem guard6 (name : String) (w : World) : (FmtStop.guard name).run Ybaf.prog w = .ok () w := by kernel_rfl
def fmtQ : ByteArray := ⟨#[112, 114, 111, 99, 101, 115, 115, 32, 37, 113, 32, 105, 115, 32, 110, 111, 116, 32, 100, 101, 99, 108, 97, 114, 101, 100, 32, 98, 121, 32, 97, 110, 32, 101, 97, 114, 108, 105, 101, 114, 32, 115, 105, 116, 101, 32, 108, 105, 110, 101]⟩
theorem fmt0 : FmtStop.printed? ⟨#[112, 114, 111, 99, 101, 115, 115, 32, 37, 113, 32, 105, 115, 32, 110, 111, 116, 32, 100, 101, 99, 108, 97, 114, 101, 100, 32, 98, 121, 32, 97, 110, 32, 101, 97, 114, 108, 105, 101, 114, 32, 115, 105, 116, 101, 32, 108, 105, 110, 101]⟩ 1 = some [(0, 113, false)] := by kernel_rfl
theorem fmt0r (w : World) : (FmtDoors.printed ⟨#[112, 114, 111, 99, 101, 115, 115, 32, 37, 113, 32, 105, 115, 32, 110, 111, 116, 32, 100, 101, 99, 108, 97, 114, 101, 100, 32, 98, 121, 32, 97, 110, 32, 101, 97, 114, 108, 105, 101, 114, 32, 115, 105, 116, 101, 32, 108, 105, 110, 101]⟩ 1).run Ybaf.prog w = .ok [(0, 113, false)] w := by kernel_rfl
def shape9 : List UInt8 := [12, 6, 0, 0, 0, 0, 0, 0, 0, 115, 116, 114, 105, 110, 103]
theorem op9_113 (name : String) (x : ByteArray) (w : World) : (FmtStop.operand name false 113 false (.iface 9 (.string x))).run Ybaf.prog w = .ok (shape9, FmtStop.pack x.data.toList) w := by kernel_rfl
theorem op9_113w (name : String) (x : ByteArray) (w : World) : (FmtStop.operand name true 113 false (.iface 9 (.string x))).run Ybaf.prog w = .ok (shape9, FmtStop.pack x.data.toList) w := by kernel_rfl
theorem ptr41 (w : World) : (FmtStop.ptrTo "errors.errorString").run Ybaf.prog w = .ok 41 w := by kernel_rfl
theorem elem41 (w : World) : (elemOf 41).run Ybaf.prog w = .ok 43 w := by kernel_rfl
theorem isError41 (w : World) : (FmtDoors.textMethod 41 "Error").run Ybaf.prog w = .ok true w := by kernel_rfl
end Go.Proofs.YbulkfkdmFmt
