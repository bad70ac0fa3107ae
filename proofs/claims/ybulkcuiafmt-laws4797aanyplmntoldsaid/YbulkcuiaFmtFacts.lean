/-
  THE CLOSED FACTS FOR THE ONE CALL OF fmt ON THE ROAD: 'fmt.Errorf("keystile: PLMN identity %q ..", s)': after the make of the guide's CheckFmt.lean, at this program's numbers. Each is the kernel's own evaluation.
-/
import Derived.Test.YbulkcuiaFmtCards
import Derived.Stop.CallBack
import Derived.Stop.IfaceNil
import GoSem.ClaimData
namespace Go.Proofs.YbulkcuiaFmt
open Go.Extern.Stop Go.Stop Go.Extern
theorem call40 (args : Array Value) (w : World) : (callFunc 40 args).run Ybaf.prog w = ((FmtStop.errorf #[9, 102] #[37] args).run Ybaf.prog w).andThen fun v w' => .ok (.value v) w' :=
  run_callFunc_extern Ybaf.func40 (by kernel_rfl) (by kernel_rfl) (by kernel_rfl) (by kernel_rfl) args w
theorem guard_any (name : String) (w : World) : (FmtStop.guard name).run Ybaf.prog w = .ok () w := by kernel_rfl
/-- the format. -/
def fmtB : List UInt8 := [107, 101, 121, 115, 116, 105, 108, 101, 58, 32, 80, 76, 77, 78, 32, 105, 100, 101, 110, 116, 105, 116, 121, 32, 37, 113, 32, 105, 115, 32, 110, 111, 116, 32, 77, 67, 67, 45, 77, 78, 67, 32, 40, 116, 104, 114, 101, 101, 32, 100, 105, 103, 105, 116, 115, 44, 32, 97, 32, 100, 97, 115, 104, 44, 32, 116, 119, 111, 32, 111, 114, 32, 116, 104, 114, 101, 101, 32, 100, 105, 103, 105, 116, 115, 41]
def shape9 : List UInt8 := [12, 6, 0, 0, 0, 0, 0, 0, 0, 115, 116, 114, 105, 110, 103]
theorem op9_113 (name : String) (x : ByteArray) (w : World) : (FmtStop.operand name false 113 false (.iface 9 (.string x))).run Ybaf.prog w = .ok (shape9, FmtStop.pack x.data.toList) w := by kernel_rfl
theorem op9_113w (name : String) (x : ByteArray) (w : World) : (FmtStop.operand name true 113 false (.iface 9 (.string x))).run Ybaf.prog w = .ok (shape9, FmtStop.pack x.data.toList) w := by kernel_rfl
theorem ptr115 (w : World) : (FmtStop.ptrTo "errors.errorString").run Ybaf.prog w = .ok 115 w := by kernel_rfl
theorem elem115 (w : World) : (elemOf 115).run Ybaf.prog w = .ok 117 w := by kernel_rfl
end Go.Proofs.YbulkcuiaFmt
