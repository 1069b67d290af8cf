import Derived.Test.YbulkbzwoFmtProg
import Derived.Stop.CallBack
import Derived.Stop.IfaceNil
import GoSem.ClaimData
namespace Go.Proofs
open Go.Extern.Stop Go.Stop Go.Extern

-- fmt.errorf: function 28: a plain stop
@[go_sem] theorem Ybaf.call28 (args : Array Value) (w : World) : (callFunc 28 args).run Ybaf.prog w = ((FmtStop.errorf #[9, 54] #[29] args).run Ybaf.prog w).andThen fun v w' => .ok (.value v) w' :=
  run_callFunc_extern Ybaf.func28 (by kernel_rfl) (by kernel_rfl) (by kernel_rfl) (by kernel_rfl) args w
@[go_sem] theorem Ybaf.guard (name : String) (w : World) : (FmtStop.guard name).run Ybaf.prog w = .ok () w := by kernel_rfl
@[go_sem] theorem Ybaf.fmt0 : FmtStop.printed? ⟨#[37, 115, 58, 32, 97, 32, 115, 101, 115, 115, 105, 111, 110, 32, 111, 102, 32, 116, 104, 101, 32, 99, 97, 108, 101, 110, 100, 97, 114, 44, 32, 98, 117, 116, 32, 116, 104, 101, 32, 112, 114, 105, 99, 101, 32, 102, 105, 108, 101, 115, 32, 104, 97, 118, 101, 32, 110, 111, 32, 114, 111, 119, 115, 32, 111, 110, 32, 105, 116]⟩ 1 = some [(0, 115, false)] := by kernel_rfl
@[go_sem] theorem Ybaf.fmt0r (w : World) : (FmtDoors.printed ⟨#[37, 115, 58, 32, 97, 32, 115, 101, 115, 115, 105, 111, 110, 32, 111, 102, 32, 116, 104, 101, 32, 99, 97, 108, 101, 110, 100, 97, 114, 44, 32, 98, 117, 116, 32, 116, 104, 101, 32, 112, 114, 105, 99, 101, 32, 102, 105, 108, 101, 115, 32, 104, 97, 118, 101, 32, 110, 111, 32, 114, 111, 119, 115, 32, 111, 110, 32, 105, 116]⟩ 1).run Ybaf.prog w = .ok [(0, 115, false)] w := by kernel_rfl
-- type 9: string
theorem Ybaf.name9 : Ybaf.prog.typeName? 3 9 = some "string" := by kernel_rfl
def Ybaf.shape9 : List UInt8 := [12, 6, 0, 0, 0, 0, 0, 0, 0, 115, 116, 114, 105, 110, 103]
@[go_sem] theorem Ybaf.op9_115 (name : String) (x : ByteArray) (w : World) : (FmtStop.operand name false 115 false (.iface 9 (.string x))).run Ybaf.prog w = .ok (Ybaf.shape9, FmtStop.pack x.data.toList) w := by kernel_rfl
@[go_sem] theorem Ybaf.op9_115w (name : String) (x : ByteArray) (w : World) : (FmtStop.operand name true 115 false (.iface 9 (.string x))).run Ybaf.prog w = .ok (Ybaf.shape9, FmtStop.pack x.data.toList) w := by kernel_rfl
@[go_sem] theorem Ybaf.strict9 (name : String) (x : ByteArray) (w : World) : (FmtStop.strict name (.iface 9 (.string x))).run Ybaf.prog w = .ok (Ybaf.shape9, FmtStop.pack x.data.toList) w := by kernel_rfl
-- the error type that fmt.errorf makes
@[go_sem] theorem Ybaf.ptr64 (w : World) : (FmtStop.ptrTo "errors.errorString").run Ybaf.prog w = .ok 64 w := by kernel_rfl
@[go_sem] theorem Ybaf.elem64 (w : World) : (elemOf 64).run Ybaf.prog w = .ok 66 w := by kernel_rfl
@[go_sem] theorem Ybaf.isError64' (w : World) : (FmtDoors.textMethod 64 "Error").run Ybaf.prog w = .ok true w := by kernel_rfl
end Go.Proofs
