/-
  The closed facts for a walk over fmt.Sprintf's stop at this program (after the guide's LabelFmt).
-/
import Derived.Test.YbulkblmiFmtProg
import Derived.Stop.CallBack
import Derived.Stop.IfaceNil
import Derived.Stop.FmtTextLaws
import GoSem.ClaimData
namespace Go.Proofs.YbulkblmiFmt
open Go.Extern.Stop Go.Stop Go.Extern

theorem call11 (args : Array Value) (w : World) : (callFunc 11 args).run Ybaf.prog w = ((FmtStop.sprintf #[9, 74] #[9] args).run Ybaf.prog w).andThen fun v w' => .ok (.value v) w' :=
  run_callFunc_extern Ybaf.func11 (by kernel_rfl) (by kernel_rfl) (by kernel_rfl) (by kernel_rfl) args w
theorem guard_ok (name : String) (w : World) : (FmtStop.guard name).run Ybaf.prog w = .ok () w := by kernel_rfl

-- "lookahead reaches rule %s again at the same position"
theorem msgF_p : FmtStop.printed? ⟨#[108, 111, 111, 107, 97, 104, 101, 97, 100, 32, 114, 101, 97, 99, 104, 101, 115, 32, 114, 117, 108, 101, 32, 37, 115, 32, 97, 103, 97, 105, 110, 32, 97, 116, 32, 116, 104, 101, 32, 115, 97, 109, 101, 32, 112, 111, 115, 105, 116, 105, 111, 110]⟩ 1 = some [(0, 115, false)] := by kernel_rfl
theorem msgF_r (w : World) : (FmtDoors.printed ⟨#[108, 111, 111, 107, 97, 104, 101, 97, 100, 32, 114, 101, 97, 99, 104, 101, 115, 32, 114, 117, 108, 101, 32, 37, 115, 32, 97, 103, 97, 105, 110, 32, 97, 116, 32, 116, 104, 101, 32, 115, 97, 109, 101, 32, 112, 111, 115, 105, 116, 105, 111, 110]⟩ 1).run Ybaf.prog w = .ok [(0, 115, false)] w := by kernel_rfl

def shape9 : List UInt8 := 12 :: FmtStop.pack [115, 116, 114, 105, 110, 103]
theorem op9_115 (name : String) (x : ByteArray) (w : World) : (FmtStop.operand name false 115 false (.iface 9 (.string x))).run Ybaf.prog w = .ok (shape9, FmtStop.pack x.data.toList) w := by kernel_rfl
end Go.Proofs.YbulkblmiFmt
