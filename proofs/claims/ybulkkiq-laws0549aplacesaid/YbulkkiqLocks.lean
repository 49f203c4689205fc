import Derived.Test.YbulkkiqProg
import Derived.Conc.MuLib
import Derived.Conc.MuLone
import Derived.KernelRfl
namespace Go.Proofs
abbrev Yba.muLink : Go.Conc.Locks.MuLink := { lock := 17, unlock := 10, ilock := 25, iunlock := 20, lockSlow := 36, unlockSlow := 33, disable := 27, enable := 28, acquire := 30, relMerge := 31, cas32 := 29, add32 := 32, tMutex := 51, tIMutex := 49, tPMutex := 80, tPIMutex := 86, tPI32 := 88, tUP := 90, tNoCopy := 46, tU32 := 47 }
theorem Yba.muLib : Go.Conc.Locks.MuLib Yba.prog Yba.muLink :=
  ⟨Yba.func17, Yba.func10, Yba.func25, Yba.func20, Yba.func27, Yba.func28, Yba.func30, Yba.func31, Yba.func29, Yba.func32, Yba.underlying49, Yba.runUnderlying49, Yba.sizeOf49, Yba.isAgg49, Yba.zeroValue49, Yba.underlying51, Yba.runUnderlying51, Yba.sizeOf51, Yba.isAgg51, Yba.zeroValue51, Yba.underlying80, Yba.runUnderlying80, Yba.sizeOf80, Yba.isAgg80, Yba.zeroValue80, Yba.underlying86, Yba.runUnderlying86, Yba.sizeOf86, Yba.isAgg86, Yba.zeroValue86, Yba.underlying88, Yba.runUnderlying88, Yba.sizeOf88, Yba.isAgg88, Yba.zeroValue88, Yba.underlying90, Yba.runUnderlying90, Yba.sizeOf90, Yba.isAgg90, Yba.zeroValue90, Yba.underlying46, Yba.runUnderlying46, Yba.sizeOf46, Yba.isAgg46, Yba.zeroValue46, Yba.underlying21, Yba.runUnderlying21, Yba.sizeOf21, Yba.isAgg21, Yba.zeroValue21, (by kernel_rfl)⟩
end Go.Proofs
