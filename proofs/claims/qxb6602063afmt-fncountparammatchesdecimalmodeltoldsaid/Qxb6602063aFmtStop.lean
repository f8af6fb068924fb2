/-
  Closed facts for the walk over fmt.errorf (function 12, a plain stop) in this dump.
-/
import Derived.Test.Qxb6602063aFmtProg
import Derived.Stop.CallBack
import Derived.Stop.IfaceNil
import GoSem.ClaimData
namespace Go.Proofs
open Go.Extern.Stop Go.Stop Go.Extern

theorem Tryf.call12 (args : Array Value) (w : World) : (callFunc 12 args).run Tryf.prog w = ((FmtStop.errorf #[9, 32] #[24] args).run Tryf.prog w).andThen fun v w' => .ok (.value v) w' :=
  run_callFunc_extern Tryf.func12 (by kernel_rfl) (by kernel_rfl) (by kernel_rfl) (by kernel_rfl) args w

theorem Tryf.guard (name : String) (w : World) : (FmtStop.guard name).run Tryf.prog w = .ok () w := by kernel_rfl

theorem Tryf.fmt0 : FmtStop.printed? ⟨#[100, 105, 97, 108, 51, 58, 32, 108, 105, 109, 105, 116, 32, 37, 113, 58, 32, 37, 115, 32, 110, 101, 101, 100, 115, 32, 37, 115, 32, 97, 32, 119, 104, 111, 108, 101, 32, 110, 117, 109, 98, 101, 114, 44, 32, 97, 116, 32, 108, 101, 97, 115, 116, 32, 49]⟩ 3 = some [(0, 113, false), (1, 115, false), (2, 115, false)] := by kernel_rfl
theorem Tryf.fmt0r (w : World) : (FmtDoors.printed ⟨#[100, 105, 97, 108, 51, 58, 32, 108, 105, 109, 105, 116, 32, 37, 113, 58, 32, 37, 115, 32, 110, 101, 101, 100, 115, 32, 37, 115, 32, 97, 32, 119, 104, 111, 108, 101, 32, 110, 117, 109, 98, 101, 114, 44, 32, 97, 116, 32, 108, 101, 97, 115, 116, 32, 49]⟩ 3).run Tryf.prog w = .ok [(0, 113, false), (1, 115, false), (2, 115, false)] w := by kernel_rfl
theorem Tryf.fmt1 : FmtStop.printed? ⟨#[100, 105, 97, 108, 51, 58, 32, 108, 105, 109, 105, 116, 32, 37, 113, 58, 32, 37, 115, 32, 110, 101, 101, 100, 115, 32, 37, 115, 32, 97, 32, 119, 104, 111, 108, 101, 32, 110, 117, 109, 98, 101, 114, 44, 32, 97, 116, 32, 108, 101, 97, 115, 116, 32, 49]⟩ 0 = some [] := by kernel_rfl

def Tryf.shape9 : List UInt8 := [12, 6, 0, 0, 0, 0, 0, 0, 0, 115, 116, 114, 105, 110, 103]
theorem Tryf.op9_113w (name : String) (x : ByteArray) (w : World) : (FmtStop.operand name true 113 false (.iface 9 (.string x))).run Tryf.prog w = .ok (Tryf.shape9, FmtStop.pack x.data.toList) w := by kernel_rfl
theorem Tryf.op9_115w (name : String) (x : ByteArray) (w : World) : (FmtStop.operand name true 115 false (.iface 9 (.string x))).run Tryf.prog w = .ok (Tryf.shape9, FmtStop.pack x.data.toList) w := by kernel_rfl
theorem Tryf.strict9 (name : String) (x : ByteArray) (w : World) : (FmtStop.strict name (.iface 9 (.string x))).run Tryf.prog w = .ok (Tryf.shape9, FmtStop.pack x.data.toList) w := by kernel_rfl

theorem Tryf.ptr43 (w : World) : (FmtStop.ptrTo "errors.errorString").run Tryf.prog w = .ok 43 w := by kernel_rfl
theorem Tryf.elem43 (w : World) : (elemOf 43).run Tryf.prog w = .ok 45 w := by kernel_rfl
theorem Tryf.isError43 (w : World) : (FmtDoors.textMethod 43 "Error").run Tryf.prog w = .ok true w := by kernel_rfl

end Go.Proofs
