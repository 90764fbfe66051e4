/-
  The closed facts for a walk over fmt's stopped front 'fmt.errorf' at this program (after the guide's IpowFmt): what the stop answers, by the kernel's own evaluation.
-/
import Derived.Test.YbulkblgkFmtProg
import Derived.Stop.CallBack
import Derived.Stop.IfaceNil
import Derived.Stop.FmtTextLaws
import GoSem.ClaimData
namespace Go.Proofs.YbulkblgkFmt
open Go.Extern.Stop Go.Stop Go.Extern

theorem call11 (args : Array Value) (w : World) : (callFunc 11 args).run Ybaf.prog w = ((FmtStop.errorf #[9, 32] #[24] args).run Ybaf.prog w).andThen fun v w' => .ok (.value v) w' :=
  run_callFunc_extern Ybaf.func11 (by kernel_rfl) (by kernel_rfl) (by kernel_rfl) (by kernel_rfl) args w

theorem guard_ok (name : String) (w : World) : (FmtStop.guard name).run Ybaf.prog w = .ok () w := by kernel_rfl

-- "participant %q: %w"
def fmtA : ByteArray := ⟨#[112, 97, 114, 116, 105, 99, 105, 112, 97, 110, 116, 32, 37, 113, 58, 32, 37, 119]⟩
-- "a shard name must be 1 to 64 letters, digits, '.', '-' or '_', not %q"
def fmtB : ByteArray := ⟨#[97, 32, 115, 104, 97, 114, 100, 32, 110, 97, 109, 101, 32, 109, 117, 115, 116, 32, 98, 101, 32, 49, 32, 116, 111, 32, 54, 52, 32, 108, 101, 116, 116, 101, 114, 115, 44, 32, 100, 105, 103, 105, 116, 115, 44, 32, 39, 46, 39, 44, 32, 39, 45, 39, 32, 111, 114, 32, 39, 95, 39, 44, 32, 110, 111, 116, 32, 37, 113]⟩

theorem fmtA_r (w : World) : (FmtDoors.printed fmtA 2).run Ybaf.prog w = .ok [(0, 113, false), (1, 119, false)] w := by kernel_rfl
theorem fmtB_r (w : World) : (FmtDoors.printed fmtB 1).run Ybaf.prog w = .ok [(0, 113, false)] w := by kernel_rfl

def shape9 : List UInt8 := 12 :: FmtStop.pack [115, 116, 114, 105, 110, 103]
theorem op9_113w (name : String) (s : ByteArray) (w : World) : (FmtStop.operand name true 113 false (.iface 9 (.string s))).run Ybaf.prog w = .ok (shape9, FmtStop.pack s.data.toList) w := by kernel_rfl

theorem ptr35 (w : World) : (FmtStop.ptrTo "errors.errorString").run Ybaf.prog w = .ok 35 w := by kernel_rfl
theorem elem35 (w : World) : (elemOf 35).run Ybaf.prog w = .ok 37 w := by kernel_rfl
theorem isError35 (w : World) : (FmtDoors.textMethod 35 "Error").run Ybaf.prog w = .ok true w := by kernel_rfl
def plain35 : List UInt8 := 14 :: FmtStop.pack [42, 101, 114, 114, 111, 114, 115, 46, 101, 114, 114, 111, 114, 83, 116, 114, 105, 110, 103]
theorem opPlain35_119w (name : String) (a : Addr) (s : ByteArray) (w : World) (hc : w.cell? a = some (.string s)) :
    (FmtStop.operand name true 119 false (.iface 35 (.pointer (some a)))).run Ybaf.prog w = .ok (plain35, s.data.toList) w := by
  have h1 : (typeStr 35).run Ybaf.prog w = .ok Ybaf.t35.str w := by kernel_rfl
  have hs : Ybaf.t35.str.toByteArray.data.toList = [42, 101, 114, 114, 111, 114, 115, 46, 101, 114, 114, 111, 114, 83, 116, 114, 105, 110, 103] := by kernel_rfl
  have d2 : Ybaf.t35.desc = .pointer 37 := rfl
  have d3 : Ybaf.t37.desc = .named "errors.errorString" 36 := rfl
  simp [FmtStop.operand, h1, hs, d2, d3, run_load, hc, plain35]
theorem ptr33 (w : World) : (FmtStop.ptrTo "fmt.wrapError").run Ybaf.prog w = .ok 33 w := by kernel_rfl
theorem elem33 (w : World) : (elemOf 33).run Ybaf.prog w = .ok 55 w := by kernel_rfl

end Go.Proofs.YbulkblgkFmt
