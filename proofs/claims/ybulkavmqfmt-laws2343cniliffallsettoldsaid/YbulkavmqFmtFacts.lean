/-
  The closed facts of fmt's stopped front at this dump: function 7 is fmt.errorf; the one format; a string operand; the type of the error that it makes.
-/
import Derived.Test.YbulkavmqFmtRows
import Derived.Stop.FmtLaws
import Derived.Stop.IfaceNil
import GoSem.ClaimData
namespace Go.Proofs.YbulkavmqFmt
open Go.Extern.Stop Go.Stop Go.Extern

theorem call7 (args : Array Value) (w : World) : (callFunc 7 args).run Ybaf.prog w = ((FmtStop.errorf #[9, 32] #[26] args).run Ybaf.prog w).andThen fun v w' => .ok (.value v) w' :=
  run_callFunc_extern Ybaf.func7 (by kernel_rfl) (by kernel_rfl) (by kernel_rfl) (by kernel_rfl) args w

theorem guardFmt (name : String) (w : World) : (FmtStop.guard name).run Ybaf.prog w = .ok () w := by kernel_rfl

theorem fmt0 : FmtStop.printed? ⟨#[116, 108, 115, 32, 37, 115, 32, 105, 115, 32, 110, 111, 116, 32, 115, 101, 116]⟩ 1 = some [(0, 115, false)] := by kernel_rfl
theorem fmt0r (w : World) : (FmtDoors.printed ⟨#[116, 108, 115, 32, 37, 115, 32, 105, 115, 32, 110, 111, 116, 32, 115, 101, 116]⟩ 1).run Ybaf.prog w = .ok [(0, 115, false)] w := by kernel_rfl

def shape9 : List UInt8 := [12, 6, 0, 0, 0, 0, 0, 0, 0, 115, 116, 114, 105, 110, 103]
theorem op9_115w (name : String) (x : ByteArray) (w : World) : (FmtStop.operand name true 115 false (.iface 9 (.string x))).run Ybaf.prog w = .ok (shape9, FmtStop.pack x.data.toList) w := by kernel_rfl
theorem op9_118w (name : String) (x : ByteArray) (w : World) : (FmtStop.operand name true 118 false (.iface 9 (.string x))).run Ybaf.prog w = .ok (shape9, FmtStop.pack x.data.toList) w := by kernel_rfl

theorem ptr35 (w : World) : (FmtStop.ptrTo "errors.errorString").run Ybaf.prog w = .ok 35 w := by kernel_rfl
theorem elem35 (w : World) : (elemOf 35).run Ybaf.prog w = .ok 37 w := by kernel_rfl

end Go.Proofs.YbulkavmqFmt
