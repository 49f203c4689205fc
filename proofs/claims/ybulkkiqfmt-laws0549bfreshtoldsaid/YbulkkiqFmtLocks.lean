-- MINE
import Derived.Test.YbulkkiqFmtProg
import Derived.Conc.MuLib
import Derived.Conc.MuLone
import Derived.KernelRfl
namespace Go.Proofs
abbrev Ybaf.muLink : Go.Conc.Locks.MuLink := { lock := 19, unlock := 20, ilock := 27, iunlock := 28, lockSlow := 44, unlockSlow := 47, disable := 40, enable := 42, acquire := 43, relMerge := 45, cas32 := 41, add32 := 46, tMutex := 43, tIMutex := 41, tPMutex := 73, tPIMutex := 85, tPI32 := 87, tUP := 89, tNoCopy := 38, tU32 := 39 }
theorem Ybaf.muLib : Go.Conc.Locks.MuLib Ybaf.prog Ybaf.muLink :=
  ⟨Ybaf.func19, Ybaf.func20, Ybaf.func27, Ybaf.func28, Ybaf.func40, Ybaf.func42, Ybaf.func43, Ybaf.func45, Ybaf.func41, Ybaf.func46, Ybaf.underlying41, Ybaf.runUnderlying41, Ybaf.sizeOf41, Ybaf.isAgg41, Ybaf.zeroValue41, Ybaf.underlying43, Ybaf.runUnderlying43, Ybaf.sizeOf43, Ybaf.isAgg43, Ybaf.zeroValue43, Ybaf.underlying73, Ybaf.runUnderlying73, Ybaf.sizeOf73, Ybaf.isAgg73, Ybaf.zeroValue73, Ybaf.underlying85, Ybaf.runUnderlying85, Ybaf.sizeOf85, Ybaf.isAgg85, Ybaf.zeroValue85, Ybaf.underlying87, Ybaf.runUnderlying87, Ybaf.sizeOf87, Ybaf.isAgg87, Ybaf.zeroValue87, Ybaf.underlying89, Ybaf.runUnderlying89, Ybaf.sizeOf89, Ybaf.isAgg89, Ybaf.zeroValue89, Ybaf.underlying38, Ybaf.runUnderlying38, Ybaf.sizeOf38, Ybaf.isAgg38, Ybaf.zeroValue38, Ybaf.underlying21, Ybaf.runUnderlying21, Ybaf.sizeOf21, Ybaf.isAgg21, Ybaf.zeroValue21, (by kernel_rfl)⟩
end Go.Proofs
