/-
  DERIVED. Closed facts for the walk over fmt.errorf's stopped front at this dump (after Derived/Test/CheckFmt.lean).
-/
import Derived.Test.YbulkdftuFmtProg
import Derived.Stop.CallBack
import Derived.Stop.IfaceNil
import GoSem.ClaimData
namespace Go.Proofs
open Go.Extern.Stop Go.Stop Go.Extern

-- fmt.errorf: function 19: a plain stop
theorem Ybaf.call19 (args : Array Value) (w : World) : (callFunc 19 args).run Ybaf.prog w = ((FmtStop.errorf #[9, 39] #[24] args).run Ybaf.prog w).andThen fun v w' => .ok (.value v) w' :=
  run_callFunc_extern Ybaf.func19 (by kernel_rfl) (by kernel_rfl) (by kernel_rfl) (by kernel_rfl) args w

theorem Ybaf.guard (name : String) (w : World) : (FmtStop.guard name).run Ybaf.prog w = .ok () w := by kernel_rfl

-- the format of notYear: two operands, then none
theorem Ybaf.fmt0 : FmtStop.printed? ⟨#[37, 115, 32, 37, 115, 32, 105, 115, 32, 110, 111, 116, 32, 97, 32, 102, 111, 117, 114, 45, 100, 105, 103, 105, 116, 32, 121, 101, 97, 114]⟩ 2 = some [(0, 115, false), (1, 115, false)] := by kernel_rfl
theorem Ybaf.fmt0r (w : World) : (FmtDoors.printed ⟨#[37, 115, 32, 37, 115, 32, 105, 115, 32, 110, 111, 116, 32, 97, 32, 102, 111, 117, 114, 45, 100, 105, 103, 105, 116, 32, 121, 101, 97, 114]⟩ 2).run Ybaf.prog w = .ok [(0, 115, false), (1, 115, false)] w := by kernel_rfl
theorem Ybaf.fmt1 : FmtStop.printed? ⟨#[37, 115, 32, 37, 115, 32, 105, 115, 32, 110, 111, 116, 32, 97, 32, 102, 111, 117, 114, 45, 100, 105, 103, 105, 116, 32, 121, 101, 97, 114]⟩ 0 = some [] := by kernel_rfl
theorem Ybaf.fmt1r (w : World) : (FmtDoors.printed ⟨#[37, 115, 32, 37, 115, 32, 105, 115, 32, 110, 111, 116, 32, 97, 32, 102, 111, 117, 114, 45, 100, 105, 103, 105, 116, 32, 121, 101, 97, 114]⟩ 0).run Ybaf.prog w = .ok [] w := by kernel_rfl

-- type 9: string
theorem Ybaf.name9 : Ybaf.prog.typeName? 3 9 = some "string" := by kernel_rfl
def Ybaf.shape9 : List UInt8 := [12, 6, 0, 0, 0, 0, 0, 0, 0, 115, 116, 114, 105, 110, 103]
theorem Ybaf.op9_115 (name : String) (x : ByteArray) (w : World) : (FmtStop.operand name false 115 false (.iface 9 (.string x))).run Ybaf.prog w = .ok (Ybaf.shape9, FmtStop.pack x.data.toList) w := by kernel_rfl
theorem Ybaf.op9_115w (name : String) (x : ByteArray) (w : World) : (FmtStop.operand name true 115 false (.iface 9 (.string x))).run Ybaf.prog w = .ok (Ybaf.shape9, FmtStop.pack x.data.toList) w := by kernel_rfl
theorem Ybaf.strict9 (name : String) (x : ByteArray) (w : World) : (FmtStop.strict name (.iface 9 (.string x))).run Ybaf.prog w = .ok (Ybaf.shape9, FmtStop.pack x.data.toList) w := by kernel_rfl

theorem Ybaf.ptr56 (w : World) : (FmtStop.ptrTo "errors.errorString").run Ybaf.prog w = .ok 56 w := by kernel_rfl
theorem Ybaf.elem56 (w : World) : (elemOf 56).run Ybaf.prog w = .ok 58 w := by kernel_rfl
theorem Ybaf.isError56' (w : World) : (FmtDoors.textMethod 56 "Error").run Ybaf.prog w = .ok true w := by kernel_rfl

end Go.Proofs
