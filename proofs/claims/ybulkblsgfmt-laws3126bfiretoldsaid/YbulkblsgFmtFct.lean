import Derived.Test.YbulkblsgFmtRows
import Derived.Stop.CallBack
import Derived.Stop.IfaceNil
import Derived.WalkKit
import Derived.WalkSpells
import Derived.ProofKit
import Derived.Below
namespace Go.Proofs
open Go.Extern.Stop Go.Stop Go.Extern

@[go_sem] theorem Ybaf.call35 (args : Array Value) (w : World) : (callFunc 35 args).run Ybaf.prog w = (FmtCalls.errorf #[9, 99] #[30] args).run Ybaf.prog w :=
  run_callFunc_next Ybaf.func35 (by kernel_rfl) (by kernel_rfl) (by kernel_rfl) args w
@[go_sem] theorem Ybaf.guard (name : String) (w : World) : (FmtStop.guard name).run Ybaf.prog w = .ok () w := by kernel_rfl
theorem Ybaf.nextTurns : Extern.next FmtCalls.turnsRow = some (FmtCalls.begun #[] #[]) := by kernel_rfl
theorem Ybaf.nextReturned : Extern.next FmtCalls.returnedRow = some (FmtCalls.returned #[] #[]) := by kernel_rfl
-- "%s header cut short by the snapshot length", 1 operand
@[go_sem] theorem Ybaf.fmt0 : FmtStop.printed? ⟨#[37, 115, 32, 104, 101, 97, 100, 101, 114, 32, 99, 117, 116, 32, 115, 104, 111, 114, 116, 32, 98, 121, 32, 116, 104, 101, 32, 115, 110, 97, 112, 115, 104, 111, 116, 32, 108, 101, 110, 103, 116, 104]⟩ 1 = some [(0, 115, false)] := by kernel_rfl
@[go_sem] theorem Ybaf.fmt0r (w : World) : (FmtDoors.printed ⟨#[37, 115, 32, 104, 101, 97, 100, 101, 114, 32, 99, 117, 116, 32, 115, 104, 111, 114, 116, 32, 98, 121, 32, 116, 104, 101, 32, 115, 110, 97, 112, 115, 104, 111, 116, 32, 108, 101, 110, 103, 116, 104]⟩ 1).run Ybaf.prog w = .ok [(0, 115, false)] w := by kernel_rfl
theorem Ybaf.name9 : Ybaf.prog.typeName? 3 9 = some "string" := by kernel_rfl
def Ybaf.shape9 : List UInt8 := [12, 6, 0, 0, 0, 0, 0, 0, 0, 115, 116, 114, 105, 110, 103]
@[go_sem] theorem Ybaf.act9_115 (name : String) (x : Value) (w : World) : (FmtCalls.act name false 115 false (.iface 9 x)).run Ybaf.prog w = .ok (.closed false) w := by kernel_rfl
@[go_sem] theorem Ybaf.act9_115w (name : String) (x : Value) (w : World) : (FmtCalls.act name true 115 false (.iface 9 x)).run Ybaf.prog w = .ok (.closed true) w := by kernel_rfl
@[go_sem] theorem Ybaf.op9_115 (name : String) (x : ByteArray) (w : World) : (FmtStop.operand name false 115 false (.iface 9 (.string x))).run Ybaf.prog w = .ok (Ybaf.shape9, FmtStop.pack x.data.toList) w := by kernel_rfl
@[go_sem] theorem Ybaf.op9_115w (name : String) (x : ByteArray) (w : World) : (FmtStop.operand name true 115 false (.iface 9 (.string x))).run Ybaf.prog w = .ok (Ybaf.shape9, FmtStop.pack x.data.toList) w := by kernel_rfl
@[go_sem] theorem Ybaf.strict9 (name : String) (x : ByteArray) (w : World) : (FmtStop.strict name (.iface 9 (.string x))).run Ybaf.prog w = .ok (Ybaf.shape9, FmtStop.pack x.data.toList) w := by kernel_rfl
@[go_sem] theorem Ybaf.str9 (w : World) : (typeStr 9).run Ybaf.prog w = .ok "string" w := by kernel_rfl
@[go_sem] theorem Ybaf.ptr108 (w : World) : (FmtStop.ptrTo "errors.errorString").run Ybaf.prog w = .ok 108 w := by kernel_rfl
@[go_sem] theorem Ybaf.elem108 (w : World) : (elemOf 108).run Ybaf.prog w = .ok 110 w := by kernel_rfl
@[go_sem] theorem Ybaf.isError108' (w : World) : (FmtDoors.textMethod 108 "Error").run Ybaf.prog w = .ok true w := by kernel_rfl
end Go.Proofs
