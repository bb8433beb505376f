import Derived.Test.YbulkgdxsFmtRows
import Derived.Stop.CallBack
import GoSem.ClaimData
namespace Go.Proofs
open Go.Extern.Stop Go.Stop Go.Extern

@[go_sem] theorem Ybaf.call10 (args : Array Value) (w : World) : (callFunc 10 args).run Ybaf.prog w = (FmtCalls.errorf #[9, 57] #[25] args).run Ybaf.prog w :=
  run_callFunc_next Ybaf.func10 (by kernel_rfl) (by kernel_rfl) (by kernel_rfl) args w
@[go_sem] theorem Ybaf.call13 (args : Array Value) (w : World) : (callFunc 13 args).run Ybaf.prog w = ((FmtStop.sprintf #[9, 57] #[9] args).run Ybaf.prog w).andThen fun v w' => .ok (.value v) w' :=
  run_callFunc_extern Ybaf.func13 (by kernel_rfl) (by kernel_rfl) (by kernel_rfl) (by kernel_rfl) args w

@[go_sem] theorem Ybaf.guard (name : String) (w : World) : (FmtStop.guard name).run Ybaf.prog w = .ok () w := by kernel_rfl
theorem Ybaf.nextTurns : Extern.next FmtCalls.turnsRow = some (FmtCalls.begun #[] #[]) := by kernel_rfl
theorem Ybaf.nextReturned : Extern.next FmtCalls.returnedRow = some (FmtCalls.returned #[] #[]) := by kernel_rfl
-- "%v is no mark a holding has", 1 operand
@[go_sem] theorem Ybaf.fmt0 : FmtStop.printed? ⟨#[37, 118, 32, 105, 115, 32, 110, 111, 32, 109, 97, 114, 107, 32, 97, 32, 104, 111, 108, 100, 105, 110, 103, 32, 104, 97, 115]⟩ 1 = some [(0, 118, false)] := by kernel_rfl
@[go_sem] theorem Ybaf.fmt0r (w : World) : (FmtDoors.printed ⟨#[37, 118, 32, 105, 115, 32, 110, 111, 32, 109, 97, 114, 107, 32, 97, 32, 104, 111, 108, 100, 105, 110, 103, 32, 104, 97, 115]⟩ 1).run Ybaf.prog w = .ok [(0, 118, false)] w := by kernel_rfl
-- "holdingMark(%d)"
@[go_sem] theorem Ybaf.fmt1 : FmtStop.printed? ⟨#[104, 111, 108, 100, 105, 110, 103, 77, 97, 114, 107, 40, 37, 100, 41]⟩ 1 = some [(0, 100, false)] := by kernel_rfl
@[go_sem] theorem Ybaf.fmt1r (w : World) : (FmtDoors.printed ⟨#[104, 111, 108, 100, 105, 110, 103, 77, 97, 114, 107, 40, 37, 100, 41]⟩ 1).run Ybaf.prog w = .ok [(0, 100, false)] w := by kernel_rfl
-- "fund %s has no class %q"
@[go_sem] theorem Ybaf.fmt2 : FmtStop.printed? ⟨#[102, 117, 110, 100, 32, 37, 115, 32, 104, 97, 115, 32, 110, 111, 32, 99, 108, 97, 115, 115, 32, 37, 113]⟩ 2 = some [(0, 115, false), (1, 113, false)] := by kernel_rfl
@[go_sem] theorem Ybaf.fmt2r (w : World) : (FmtDoors.printed ⟨#[102, 117, 110, 100, 32, 37, 115, 32, 104, 97, 115, 32, 110, 111, 32, 99, 108, 97, 115, 115, 32, 37, 113]⟩ 2).run Ybaf.prog w = .ok [(0, 115, false), (1, 113, false)] w := by kernel_rfl


-- type 22: register.holdingMark
@[go_sem] theorem Ybaf.act22_118w (name : String) (x : Value) (w : World) : (FmtCalls.act name true 118 false (.iface 22 x)).run Ybaf.prog w = .ok (.call false) w := by kernel_rfl
@[go_sem] theorem Ybaf.act22_118 (name : String) (x : Value) (w : World) : (FmtCalls.act name false 118 false (.iface 22 x)).run Ybaf.prog w = .ok (.call false) w := by kernel_rfl
@[go_sem] theorem Ybaf.isError22 (w : World) : (FmtDoors.textMethod 22 "Error").run Ybaf.prog w = .ok false w := by kernel_rfl
@[go_sem] theorem Ybaf.isString22 (w : World) : (FmtDoors.textMethod 22 "String").run Ybaf.prog w = .ok true w := by kernel_rfl
theorem Ybaf.invokeString22 (x : Value) (w : World) : (invoke (.fn (.method "String") #[]) #[.iface 22 x]).run Ybaf.prog w = .ok (.enter 11 #[x]) w := by kernel_rfl
@[go_sem] theorem Ybaf.str22 (w : World) : (typeStr 22).run Ybaf.prog w = .ok "register.holdingMark" w := by kernel_rfl
-- type 3: int
theorem Ybaf.name3 : Ybaf.prog.typeName? 3 3 = some "int" := by kernel_rfl
def Ybaf.shape3 : List UInt8 := [5, 3, 0, 0, 0, 0, 0, 0, 0, 105, 110, 116]
@[go_sem] theorem Ybaf.act3_100 (name : String) (x : Value) (w : World) : (FmtCalls.act name false 100 false (.iface 3 x)).run Ybaf.prog w = .ok (.closed false) w := by kernel_rfl
@[go_sem] theorem Ybaf.op3_100 (name : String) (x : Int) (w : World) : (FmtStop.operand name false 100 false (.iface 3 (.int .i64 x))).run Ybaf.prog w = .ok (Ybaf.shape3, Go.Extern.Stop.digits 8 (x % 2 ^ 64).toNat) w := by kernel_rfl
@[go_sem] theorem Ybaf.strict3 (name : String) (x : Int) (w : World) : (FmtStop.strict name (.iface 3 (.int .i64 x))).run Ybaf.prog w = .ok (Ybaf.shape3, Go.Extern.Stop.digits 8 (x % 2 ^ 64).toNat) w := by kernel_rfl
-- type 9: string
def Ybaf.shape9 : List UInt8 := [12, 6, 0, 0, 0, 0, 0, 0, 0, 115, 116, 114, 105, 110, 103]
@[go_sem] theorem Ybaf.act9_115w (name : String) (x : Value) (w : World) : (FmtCalls.act name true 115 false (.iface 9 x)).run Ybaf.prog w = .ok (.closed true) w := by kernel_rfl
@[go_sem] theorem Ybaf.act9_113w (name : String) (x : Value) (w : World) : (FmtCalls.act name true 113 false (.iface 9 x)).run Ybaf.prog w = .ok (.closed true) w := by kernel_rfl
@[go_sem] theorem Ybaf.op9_115w (name : String) (x : ByteArray) (w : World) : (FmtStop.operand name true 115 false (.iface 9 (.string x))).run Ybaf.prog w = .ok (Ybaf.shape9, FmtStop.pack x.data.toList) w := by kernel_rfl
@[go_sem] theorem Ybaf.op9_113w (name : String) (x : ByteArray) (w : World) : (FmtStop.operand name true 113 false (.iface 9 (.string x))).run Ybaf.prog w = .ok (Ybaf.shape9, FmtStop.pack x.data.toList) w := by kernel_rfl
-- the error types
@[go_sem] theorem Ybaf.ptr59 (w : World) : (FmtStop.ptrTo "errors.errorString").run Ybaf.prog w = .ok 59 w := by kernel_rfl
@[go_sem] theorem Ybaf.elem59 (w : World) : (elemOf 59).run Ybaf.prog w = .ok 61 w := by kernel_rfl
end Go.Proofs
