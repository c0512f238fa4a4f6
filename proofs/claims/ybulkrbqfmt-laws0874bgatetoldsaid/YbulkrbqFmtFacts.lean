/-
  The closed facts for a walk over fmt.Sprintf as a stop that calls (function 10) over this seat's program. Each by the kernel's own evaluation.
-/
import Derived.Test.YbulkrbqFmtRows
import Derived.Stop.CallBack
import Derived.Stop.IfaceNil
import GoSem.ClaimData
namespace Go.Proofs
open Go.Extern.Stop Go.Stop Go.Extern

theorem Ybaf.call10 (args : Array Value) (w : World) : (callFunc 10 args).run Ybaf.prog w = (FmtCalls.sprintf #[9, 48] #[9] args).run Ybaf.prog w :=
  run_callFunc_next Ybaf.func10 (by kernel_rfl) (by kernel_rfl) (by kernel_rfl) args w
theorem Ybaf.guard (name : String) (w : World) : (FmtStop.guard name).run Ybaf.prog w = .ok () w := by kernel_rfl
theorem Ybaf.nextTurns : Extern.next FmtCalls.turnsRow = some (FmtCalls.begun #[] #[]) := by kernel_rfl
def Ybaf.shape9 : List UInt8 := [12, 6, 0, 0, 0, 0, 0, 0, 0, 115, 116, 114, 105, 110, 103]
theorem Ybaf.act9_115 (name : String) (x : Value) (w : World) : (FmtCalls.act name false 115 false (.iface 9 x)).run Ybaf.prog w = .ok (.closed false) w := by kernel_rfl
theorem Ybaf.op9_115 (name : String) (x : ByteArray) (w : World) : (FmtStop.operand name false 115 false (.iface 9 (.string x))).run Ybaf.prog w = .ok (Ybaf.shape9, FmtStop.pack x.data.toList) w := by kernel_rfl
/-- "no .name %s: a champion needs a name" -/
def Ybaf.fmtN : ByteArray := ⟨#[110, 111, 32, 46, 110, 97, 109, 101, 32, 37, 115, 58, 32, 97, 32, 99, 104, 97, 109, 112, 105, 111, 110, 32, 110, 101, 101, 100, 115, 32, 97, 32, 110, 97, 109, 101]⟩
theorem Ybaf.fmtN_printed : FmtStop.printed? Ybaf.fmtN 1 = some [(0, 115, false)] := by kernel_rfl
end Go.Proofs
