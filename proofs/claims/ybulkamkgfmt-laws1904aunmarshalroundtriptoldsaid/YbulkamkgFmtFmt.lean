import Derived.Test.YbulkamkgFmtRows
import Derived.Stop.CallBack
import Derived.Stop.IfaceNil
import GoSem.ClaimData
namespace Go.Proofs
open Go.Extern.Stop Go.Stop Go.Extern

@[go_sem] theorem Ybaf.call10 (args : Array Value) (w : World) : (callFunc 10 args).run Ybaf.prog w = ((FmtStop.errorf #[9, 36] #[25] args).run Ybaf.prog w).andThen fun v w' => .ok (.value v) w' :=
  run_callFunc_extern Ybaf.func10 (by kernel_rfl) (by kernel_rfl) (by kernel_rfl) (by kernel_rfl) args w
@[go_sem] theorem Ybaf.guard (name : String) (w : World) : (FmtStop.guard name).run Ybaf.prog w = .ok () w := by kernel_rfl
@[go_sem] theorem Ybaf.fmt0 : FmtStop.printed? ⟨#[117, 110, 107, 110, 111, 119, 110, 32, 101, 115, 99, 97, 112, 101, 32, 37, 113, 58, 32, 119, 97, 110, 116, 32, 37, 113, 32, 111, 114, 32, 37, 113]⟩ 3 = some [(0, 113, false), (1, 113, false), (2, 113, false)] := by kernel_rfl
@[go_sem] theorem Ybaf.fmt0r (w : World) : (FmtDoors.printed ⟨#[117, 110, 107, 110, 111, 119, 110, 32, 101, 115, 99, 97, 112, 101, 32, 37, 113, 58, 32, 119, 97, 110, 116, 32, 37, 113, 32, 111, 114, 32, 37, 113]⟩ 3).run Ybaf.prog w = .ok [(0, 113, false), (1, 113, false), (2, 113, false)] w := by kernel_rfl
theorem Ybaf.name9 : Ybaf.prog.typeName? 3 9 = some "string" := by kernel_rfl
def Ybaf.shape9 : List UInt8 := [12, 6, 0, 0, 0, 0, 0, 0, 0, 115, 116, 114, 105, 110, 103]
@[go_sem] theorem Ybaf.op9_113 (name : String) (x : ByteArray) (w : World) : (FmtStop.operand name false 113 false (.iface 9 (.string x))).run Ybaf.prog w = .ok (Ybaf.shape9, FmtStop.pack x.data.toList) w := by kernel_rfl
@[go_sem] theorem Ybaf.op9_113w (name : String) (x : ByteArray) (w : World) : (FmtStop.operand name true 113 false (.iface 9 (.string x))).run Ybaf.prog w = .ok (Ybaf.shape9, FmtStop.pack x.data.toList) w := by kernel_rfl
def Ybaf.shape27 : List UInt8 := [12, 14, 0, 0, 0, 0, 0, 0, 0, 109, 111, 114, 116, 105, 115, 101, 46, 69, 115, 99, 97, 112, 101]
@[go_sem] theorem Ybaf.op27_113 (name : String) (x : ByteArray) (w : World) : (FmtStop.operand name false 113 false (.iface 27 (.string x))).run Ybaf.prog w = .ok (Ybaf.shape27, FmtStop.pack x.data.toList) w := by kernel_rfl
@[go_sem] theorem Ybaf.op27_113w (name : String) (x : ByteArray) (w : World) : (FmtStop.operand name true 113 false (.iface 27 (.string x))).run Ybaf.prog w = .ok (Ybaf.shape27, FmtStop.pack x.data.toList) w := by kernel_rfl
@[go_sem] theorem Ybaf.ptr39 (w : World) : (FmtStop.ptrTo "errors.errorString").run Ybaf.prog w = .ok 39 w := by kernel_rfl
@[go_sem] theorem Ybaf.elem39 (w : World) : (elemOf 39).run Ybaf.prog w = .ok 41 w := by kernel_rfl
@[go_sem] theorem Ybaf.isError39' (w : World) : (FmtDoors.textMethod 39 "Error").run Ybaf.prog w = .ok true w := by kernel_rfl
end Go.Proofs
