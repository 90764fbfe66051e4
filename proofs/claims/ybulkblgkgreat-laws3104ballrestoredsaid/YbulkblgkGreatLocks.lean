/-
  The numbers under which this dump holds sync.Mutex's functions and types (checked by the kernel as it is compiled).
-/
import Derived.Test.YbulkblgkGreatProg
import Derived.Conc.RwLib
import Derived.Conc.MuData
import Derived.KernelRfl
namespace Go.Proofs
abbrev Ybaz.muLink : Go.Conc.Locks.MuLink := { lock := 11, unlock := 12, ilock := 17, iunlock := 18, lockSlow := 35, unlockSlow := 38, disable := 31, enable := 33, acquire := 34, relMerge := 36, cas32 := 32, add32 := 37, tMutex := 43, tIMutex := 41, tPMutex := 100, tPIMutex := 114, tPI32 := 116, tUP := 118, tNoCopy := 38, tU32 := 39 }
theorem Ybaz.muLib : Go.Conc.Locks.MuLib Ybaz.prog Ybaz.muLink :=
  ⟨Ybaz.func11, Ybaz.func12, Ybaz.func17, Ybaz.func18, Ybaz.func31, Ybaz.func33, Ybaz.func34, Ybaz.func36, Ybaz.func32, Ybaz.func37,
   Ybaz.underlying41, Ybaz.runUnderlying41, Ybaz.sizeOf41, Ybaz.isAgg41, Ybaz.zeroValue41, Ybaz.underlying43, Ybaz.runUnderlying43, Ybaz.sizeOf43, Ybaz.isAgg43, Ybaz.zeroValue43, Ybaz.underlying100, Ybaz.runUnderlying100, Ybaz.sizeOf100, Ybaz.isAgg100, Ybaz.zeroValue100, Ybaz.underlying114, Ybaz.runUnderlying114, Ybaz.sizeOf114, Ybaz.isAgg114, Ybaz.zeroValue114, Ybaz.underlying116, Ybaz.runUnderlying116, Ybaz.sizeOf116, Ybaz.isAgg116, Ybaz.zeroValue116, Ybaz.underlying118, Ybaz.runUnderlying118, Ybaz.sizeOf118, Ybaz.isAgg118, Ybaz.zeroValue118, Ybaz.underlying38, Ybaz.runUnderlying38, Ybaz.sizeOf38, Ybaz.isAgg38, Ybaz.zeroValue38, Ybaz.underlying21, Ybaz.runUnderlying21, Ybaz.sizeOf21, Ybaz.isAgg21, Ybaz.zeroValue21, (by kernel_rfl)⟩
end Go.Proofs
