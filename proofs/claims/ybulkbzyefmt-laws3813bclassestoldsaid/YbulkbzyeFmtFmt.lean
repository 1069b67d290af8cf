import Derived.Test.YbulkbzyeFmtProg
import Derived.Stop.CallBack
import Derived.Stop.IfaceNil
import Derived.Stop.Asserts
import Derived.LaidEql
import Derived.LaidEqlPtr
import Derived.WalkKit
import Derived.WalkSpells
import Derived.WalkLawsBesides
import Derived.RowKitTokens
import GoSem.ClaimData
namespace Go.Proofs
open Go.RowKit Go.Extern.Stop Go.Stop Go.Extern

-- fmt.errorf: function 17: a stop that calls its operands' Error() | String()
@[go_sem] theorem Ybaf.call17 (args : Array Value) (w : World) : (callFunc 17 args).run Ybaf.prog w = (FmtCalls.errorf #[9, 61] #[23] args).run Ybaf.prog w :=
  run_callFunc_next Ybaf.func17 (by kernel_rfl) (by kernel_rfl) (by kernel_rfl) args w
@[go_sem] theorem Ybaf.guard (name : String) (w : World) : (FmtStop.guard name).run Ybaf.prog w = .ok () w := by kernel_rfl
theorem Ybaf.nextTurns : Extern.next FmtCalls.turnsRow = some (FmtCalls.begun #[] #[]) := by kernel_rfl
theorem Ybaf.nextReturned : Extern.next FmtCalls.returnedRow = some (FmtCalls.returned #[] #[]) := by kernel_rfl
@[go_sem] theorem Ybaf.fmt0 : FmtStop.printed? ⟨#[98, 111, 100, 121, 32, 105, 115, 32, 110, 111, 116, 32, 118, 97, 108, 105, 100, 32, 74, 83, 79, 78, 58, 32, 37, 118, 32, 40, 97, 116, 32, 98, 121, 116, 101, 32, 37, 100, 41]⟩ 2 = some [(0, 118, false), (1, 100, false)] := by kernel_rfl
@[go_sem] theorem Ybaf.fmt0r (w : World) : (FmtDoors.printed ⟨#[98, 111, 100, 121, 32, 105, 115, 32, 110, 111, 116, 32, 118, 97, 108, 105, 100, 32, 74, 83, 79, 78, 58, 32, 37, 118, 32, 40, 97, 116, 32, 98, 121, 116, 101, 32, 37, 100, 41]⟩ 2).run Ybaf.prog w = .ok [(0, 118, false), (1, 100, false)] w := by kernel_rfl
@[go_sem] theorem Ybaf.fmt1 : FmtStop.printed? ⟨#[114, 101, 97, 100, 105, 110, 103, 32, 98, 111, 100, 121, 58, 32, 37, 119]⟩ 1 = some [(0, 119, false)] := by kernel_rfl
@[go_sem] theorem Ybaf.fmt1r (w : World) : (FmtDoors.printed ⟨#[114, 101, 97, 100, 105, 110, 103, 32, 98, 111, 100, 121, 58, 32, 37, 119]⟩ 1).run Ybaf.prog w = .ok [(0, 119, false)] w := by kernel_rfl
-- type 24
@[go_sem] theorem Ybaf.act24_118 (name : String) (x : Value) (w : World) : (FmtCalls.act name false 118 false (.iface 24 x)).run Ybaf.prog w = .ok (.call true) w := by kernel_rfl
@[go_sem] theorem Ybaf.act24_118w (name : String) (x : Value) (w : World) : (FmtCalls.act name true 118 false (.iface 24 x)).run Ybaf.prog w = .ok (.call true) w := by kernel_rfl
@[go_sem] theorem Ybaf.act24_119w (name : String) (x : Value) (w : World) : (FmtCalls.act name true 119 false (.iface 24 x)).run Ybaf.prog w = .ok (.call true) w := by kernel_rfl
@[go_sem] theorem Ybaf.isError24 (w : World) : (FmtDoors.textMethod 24 "Error").run Ybaf.prog w = .ok true w := by kernel_rfl
theorem Ybaf.invokeError24 (x : Value) (w : World) : (invoke (.fn (.method "Error") #[]) #[.iface 24 x]).run Ybaf.prog w = .ok (.enter 19 #[x]) w := by kernel_rfl
@[go_sem] theorem Ybaf.str24 (w : World) : (typeStr 24).run Ybaf.prog w = .ok "*json.SyntaxError" w := by kernel_rfl
-- type 27
@[go_sem] theorem Ybaf.act27_118 (name : String) (x : Value) (w : World) : (FmtCalls.act name false 118 false (.iface 27 x)).run Ybaf.prog w = .ok (.call true) w := by kernel_rfl
@[go_sem] theorem Ybaf.act27_118w (name : String) (x : Value) (w : World) : (FmtCalls.act name true 118 false (.iface 27 x)).run Ybaf.prog w = .ok (.call true) w := by kernel_rfl
@[go_sem] theorem Ybaf.act27_119w (name : String) (x : Value) (w : World) : (FmtCalls.act name true 119 false (.iface 27 x)).run Ybaf.prog w = .ok (.call true) w := by kernel_rfl
@[go_sem] theorem Ybaf.isError27 (w : World) : (FmtDoors.textMethod 27 "Error").run Ybaf.prog w = .ok true w := by kernel_rfl
theorem Ybaf.invokeError27 (x : Value) (w : World) : (invoke (.fn (.method "Error") #[]) #[.iface 27 x]).run Ybaf.prog w = .ok (.enter 39 #[x]) w := by kernel_rfl
@[go_sem] theorem Ybaf.str27 (w : World) : (typeStr 27).run Ybaf.prog w = .ok "*server.zzs3813berr" w := by kernel_rfl
-- type 30
@[go_sem] theorem Ybaf.act30_118 (name : String) (x : Value) (w : World) : (FmtCalls.act name false 118 false (.iface 30 x)).run Ybaf.prog w = .ok (.call true) w := by kernel_rfl
@[go_sem] theorem Ybaf.act30_118w (name : String) (x : Value) (w : World) : (FmtCalls.act name true 118 false (.iface 30 x)).run Ybaf.prog w = .ok (.call true) w := by kernel_rfl
@[go_sem] theorem Ybaf.act30_119w (name : String) (x : Value) (w : World) : (FmtCalls.act name true 119 false (.iface 30 x)).run Ybaf.prog w = .ok (.call true) w := by kernel_rfl
@[go_sem] theorem Ybaf.isError30 (w : World) : (FmtDoors.textMethod 30 "Error").run Ybaf.prog w = .ok true w := by kernel_rfl
theorem Ybaf.invokeError30 (x : Value) (w : World) : (invoke (.fn (.method "Error") #[]) #[.iface 30 x]).run Ybaf.prog w = .ok (.enter 40 #[x]) w := by kernel_rfl
@[go_sem] theorem Ybaf.str30 (w : World) : (typeStr 30).run Ybaf.prog w = .ok "*server.zzs3813bwrap" w := by kernel_rfl
-- type 2: int64
def Ybaf.shape2 : List UInt8 := [5, 5, 0, 0, 0, 0, 0, 0, 0, 105, 110, 116, 54, 52]
@[go_sem] theorem Ybaf.act2_100 (name : String) (x : Value) (w : World) : (FmtCalls.act name false 100 false (.iface 2 x)).run Ybaf.prog w = .ok (.closed false) w := by kernel_rfl
@[go_sem] theorem Ybaf.act2_100w (name : String) (x : Value) (w : World) : (FmtCalls.act name true 100 false (.iface 2 x)).run Ybaf.prog w = .ok (.closed true) w := by kernel_rfl
@[go_sem] theorem Ybaf.op2_100 (name : String) (x : Int) (w : World) : (FmtStop.operand name false 100 false (.iface 2 (.int .i64 x))).run Ybaf.prog w = .ok (Ybaf.shape2, Go.Extern.Stop.digits 8 (x % 2 ^ 64).toNat) w := by kernel_rfl
@[go_sem] theorem Ybaf.op2_100w (name : String) (x : Int) (w : World) : (FmtStop.operand name true 100 false (.iface 2 (.int .i64 x))).run Ybaf.prog w = .ok (Ybaf.shape2, Go.Extern.Stop.digits 8 (x % 2 ^ 64).toNat) w := by kernel_rfl
@[go_sem] theorem Ybaf.str2 (w : World) : (typeStr 2).run Ybaf.prog w = .ok "int64" w := by kernel_rfl
@[go_sem] theorem Ybaf.ptr78 (w : World) : (FmtStop.ptrTo "errors.errorString").run Ybaf.prog w = .ok 78 w := by kernel_rfl
@[go_sem] theorem Ybaf.elem78 (w : World) : (elemOf 78).run Ybaf.prog w = .ok 80 w := by kernel_rfl
@[go_sem] theorem Ybaf.ptr63 (w : World) : (FmtStop.ptrTo "fmt.wrapError").run Ybaf.prog w = .ok 63 w := by kernel_rfl
@[go_sem] theorem Ybaf.elem63 (w : World) : (elemOf 63).run Ybaf.prog w = .ok 101 w := by kernel_rfl
end Go.Proofs
