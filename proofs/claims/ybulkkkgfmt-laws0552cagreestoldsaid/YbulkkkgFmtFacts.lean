import Derived.Test.YbulkkkgFmtProg
import Derived.Stop.CallBack
import Derived.Stop.IfaceNil
import GoSem.ClaimData
import Derived.WalkKit
import Derived.WalkSpells
namespace Go.Proofs
open Go.Extern.Stop Go.Stop Go.Extern

@[go_sem] theorem Ybaf.call9 (args : Array Value) (w : World) : (callFunc 9 args).run Ybaf.prog w = (FmtCalls.errorf #[9, 39] #[33] args).run Ybaf.prog w :=
  run_callFunc_next Ybaf.func9 (by kernel_rfl) (by kernel_rfl) (by kernel_rfl) args w
@[go_sem] theorem Ybaf.call12 (args : Array Value) (w : World) : (callFunc 12 args).run Ybaf.prog w = ((FmtStop.sprintf #[9, 39] #[9] args).run Ybaf.prog w).andThen fun v w' => .ok (.value v) w' :=
  run_callFunc_extern Ybaf.func12 (by kernel_rfl) (by kernel_rfl) (by kernel_rfl) (by kernel_rfl) args w
@[go_sem] theorem Ybaf.guard (name : String) (w : World) : (FmtStop.guard name).run Ybaf.prog w = .ok () w := by kernel_rfl
theorem Ybaf.nextTurns : Extern.next FmtCalls.turnsRow = some (FmtCalls.begun #[] #[]) := by kernel_rfl
theorem Ybaf.nextReturned : Extern.next FmtCalls.returnedRow = some (FmtCalls.returned #[] #[]) := by kernel_rfl
@[go_sem] theorem Ybaf.fmt0 : FmtStop.printed? ⟨#[37, 115, 47, 37, 100]⟩ 2 = some [(0, 115, false), (1, 100, false)] := by kernel_rfl
@[go_sem] theorem Ybaf.fmt0r (w : World) : (FmtDoors.printed ⟨#[37, 115, 47, 37, 100]⟩ 2).run Ybaf.prog w = .ok [(0, 115, false), (1, 100, false)] w := by kernel_rfl
@[go_sem] theorem Ybaf.fmt1 : FmtStop.printed? ⟨#[99, 104, 97, 110, 103, 101, 32, 37, 115, 32, 114, 101, 112, 108, 97, 99, 101, 115, 32, 37, 115, 44, 32, 119, 104, 105, 99, 104, 32, 105, 115, 32, 110, 111, 116, 32, 104, 101, 108, 100]⟩ 2 = some [(0, 115, false), (1, 115, false)] := by kernel_rfl
@[go_sem] theorem Ybaf.fmt1r (w : World) : (FmtDoors.printed ⟨#[99, 104, 97, 110, 103, 101, 32, 37, 115, 32, 114, 101, 112, 108, 97, 99, 101, 115, 32, 37, 115, 44, 32, 119, 104, 105, 99, 104, 32, 105, 115, 32, 110, 111, 116, 32, 104, 101, 108, 100]⟩ 2).run Ybaf.prog w = .ok [(0, 115, false), (1, 115, false)] w := by kernel_rfl
@[go_sem] theorem Ybaf.fmt2 : FmtStop.printed? ⟨#[99, 104, 97, 110, 103, 101, 32, 37, 115, 32, 99, 97, 109, 101, 32, 119, 104, 101, 114, 101, 32, 37, 115, 47, 37, 100, 32, 119, 97, 115, 32, 100, 117, 101]⟩ 3 = some [(0, 115, false), (1, 115, false), (2, 100, false)] := by kernel_rfl
@[go_sem] theorem Ybaf.fmt2r (w : World) : (FmtDoors.printed ⟨#[99, 104, 97, 110, 103, 101, 32, 37, 115, 32, 99, 97, 109, 101, 32, 119, 104, 101, 114, 101, 32, 37, 115, 47, 37, 100, 32, 119, 97, 115, 32, 100, 117, 101]⟩ 3).run Ybaf.prog w = .ok [(0, 115, false), (1, 115, false), (2, 100, false)] w := by kernel_rfl
@[go_sem] theorem Ybaf.act31_115w (name : String) (x : Value) (w : World) : (FmtCalls.act name true 115 false (.iface 31 x)).run Ybaf.prog w = .ok (.call false) w := by kernel_rfl
@[go_sem] theorem Ybaf.isString31 (w : World) : (FmtDoors.textMethod 31 "String").run Ybaf.prog w = .ok true w := by kernel_rfl
theorem Ybaf.invokeString31 (x : Value) (w : World) : (invoke (.fn (.method "String") #[]) #[.iface 31 x]).run Ybaf.prog w = .ok (.enter 11 #[x]) w := by kernel_rfl
@[go_sem] theorem Ybaf.str31 (w : World) : (typeStr 31).run Ybaf.prog w = .ok "driftlog.changeID" w := by kernel_rfl
def Ybaf.shape9 : List UInt8 := 12 :: FmtStop.pack "string".toUTF8.data.toList
def Ybaf.shape23 : List UInt8 := 9 :: FmtStop.pack "uint64".toUTF8.data.toList
@[go_sem] theorem Ybaf.act9_115w (name : String) (x : Value) (w : World) : (FmtCalls.act name true 115 false (.iface 9 x)).run Ybaf.prog w = .ok (.closed true) w := by kernel_rfl
@[go_sem] theorem Ybaf.op9_115w (name : String) (s : ByteArray) (w : World) : (FmtStop.operand name true 115 false (.iface 9 (.string s))).run Ybaf.prog w = .ok (Ybaf.shape9, FmtStop.pack s.data.toList) w := by kernel_rfl
@[go_sem] theorem Ybaf.op9_115 (name : String) (s : ByteArray) (w : World) : (FmtStop.operand name false 115 false (.iface 9 (.string s))).run Ybaf.prog w = .ok (Ybaf.shape9, FmtStop.pack s.data.toList) w := by kernel_rfl
@[go_sem] theorem Ybaf.act23_100w (name : String) (x : Value) (w : World) : (FmtCalls.act name true 100 false (.iface 23 x)).run Ybaf.prog w = .ok (.closed true) w := by kernel_rfl
@[go_sem] theorem Ybaf.op23_100w (name : String) (x : Int) (w : World) : (FmtStop.operand name true 100 false (.iface 23 (.int .u64 x))).run Ybaf.prog w = .ok (Ybaf.shape23, Go.Extern.Stop.digits 8 (x % 2 ^ 64).toNat) w := by kernel_rfl
@[go_sem] theorem Ybaf.op23_100 (name : String) (x : Int) (w : World) : (FmtStop.operand name false 100 false (.iface 23 (.int .u64 x))).run Ybaf.prog w = .ok (Ybaf.shape23, Go.Extern.Stop.digits 8 (x % 2 ^ 64).toNat) w := by kernel_rfl
@[go_sem] theorem Ybaf.ptr42 (w : World) : (FmtStop.ptrTo "errors.errorString").run Ybaf.prog w = .ok 42 w := by kernel_rfl
@[go_sem] theorem Ybaf.elem42 (w : World) : (elemOf 42).run Ybaf.prog w = .ok 44 w := by kernel_rfl
@[go_sem] theorem Ybaf.isError42 (w : World) : (FmtDoors.textMethod 42 "Error").run Ybaf.prog w = .ok true w := by kernel_rfl
end Go.Proofs
