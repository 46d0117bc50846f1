/-
  CLOSED FACTS FOR A WALK OVER fmt's STOPPED FRONT 'fmt.errorf' (function 45) AT THE ONE FORMAT OF snapshotsDoc.get: each by the kernel's own evaluation.
-/
import Derived.Test.YbulkcwhsFmtRows
import Derived.Stop.CallBack
import Derived.Stop.IfaceNil
import GoSem.ClaimData
namespace Go.Proofs.YbulkcwhsFmt
open Go.Extern.Stop Go.Stop Go.Extern

theorem call45 (args : Array Value) (w : World) : (callFunc 45 args).run Ybaf.prog w = ((FmtStop.errorf #[9, 87] #[56] args).run Ybaf.prog w).andThen fun v w' => .ok (.value v) w' :=
  run_callFunc_extern Ybaf.func45 (by kernel_rfl) (by kernel_rfl) (by kernel_rfl) (by kernel_rfl) args w

theorem fguard (name : String) (w : World) : (FmtStop.guard name).run Ybaf.prog w = .ok () w := by kernel_rfl

-- "no snapshot named %q", one operand
theorem fmt0 : FmtStop.printed? ⟨#[110, 111, 32, 115, 110, 97, 112, 115, 104, 111, 116, 32, 110, 97, 109, 101, 100, 32, 37, 113]⟩ 1 = some [(0, 113, false)] := by kernel_rfl
theorem fmt0r (w : World) : (FmtDoors.printed ⟨#[110, 111, 32, 115, 110, 97, 112, 115, 104, 111, 116, 32, 110, 97, 109, 101, 100, 32, 37, 113]⟩ 1).run Ybaf.prog w = .ok [(0, 113, false)] w := by kernel_rfl

def shape9 : List UInt8 := [12, 6, 0, 0, 0, 0, 0, 0, 0, 115, 116, 114, 105, 110, 103]
theorem op9_113 (name : String) (x : ByteArray) (w : World) : (FmtStop.operand name false 113 false (.iface 9 (.string x))).run Ybaf.prog w = .ok (shape9, FmtStop.pack x.data.toList) w := by kernel_rfl
theorem op9_113w (name : String) (x : ByteArray) (w : World) : (FmtStop.operand name true 113 false (.iface 9 (.string x))).run Ybaf.prog w = .ok (shape9, FmtStop.pack x.data.toList) w := by kernel_rfl
theorem strict9 (name : String) (x : ByteArray) (w : World) : (FmtStop.strict name (.iface 9 (.string x))).run Ybaf.prog w = .ok (shape9, FmtStop.pack x.data.toList) w := by kernel_rfl

theorem ptr101 (w : World) : (FmtStop.ptrTo "errors.errorString").run Ybaf.prog w = .ok 101 w := by kernel_rfl
theorem elem101 (w : World) : (elemOf 101).run Ybaf.prog w = .ok 103 w := by kernel_rfl
theorem isError101 (w : World) : (FmtDoors.textMethod 101 "Error").run Ybaf.prog w = .ok true w := by kernel_rfl

end Go.Proofs.YbulkcwhsFmt
