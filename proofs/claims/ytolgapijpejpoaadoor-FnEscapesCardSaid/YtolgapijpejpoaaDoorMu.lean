/- The lock of package sync, as this program holds it. -/
import Derived.Test.YtolgapijpejpoaaDoorProg
import Derived.Conc.MuLone
import Derived.KernelRfl
namespace Go.Proofs
abbrev Tryd.muLink : Go.Conc.Locks.MuLink := { lock := 41, unlock := 42, ilock := 49, iunlock := 50, lockSlow := 58, unlockSlow := 61, disable := 54, enable := 56, acquire := 57, relMerge := 59, cas32 := 55, add32 := 60, tMutex := 128, tIMutex := 126, tPMutex := 140, tPIMutex := 147, tPI32 := 149, tUP := 151, tNoCopy := 124, tU32 := 87 }
theorem Tryd.muLib : Go.Conc.Locks.MuLib Tryd.prog Tryd.muLink :=
  ⟨Tryd.func41, Tryd.func42, Tryd.func49, Tryd.func50, Tryd.func54, Tryd.func56, Tryd.func57, Tryd.func59, Tryd.func55, Tryd.func60, Tryd.underlying126, Tryd.runUnderlying126, Tryd.sizeOf126, Tryd.isAgg126, Tryd.zeroValue126, Tryd.underlying128, Tryd.runUnderlying128, Tryd.sizeOf128, Tryd.isAgg128, Tryd.zeroValue128, Tryd.underlying140, Tryd.runUnderlying140, Tryd.sizeOf140, Tryd.isAgg140, Tryd.zeroValue140, Tryd.underlying147, Tryd.runUnderlying147, Tryd.sizeOf147, Tryd.isAgg147, Tryd.zeroValue147, Tryd.underlying149, Tryd.runUnderlying149, Tryd.sizeOf149, Tryd.isAgg149, Tryd.zeroValue149, Tryd.underlying151, Tryd.runUnderlying151, Tryd.sizeOf151, Tryd.isAgg151, Tryd.zeroValue151, Tryd.underlying124, Tryd.runUnderlying124, Tryd.sizeOf124, Tryd.isAgg124, Tryd.zeroValue124, Tryd.underlying21, Tryd.runUnderlying21, Tryd.sizeOf21, Tryd.isAgg21, Tryd.zeroValue21, (by kernel_rfl)⟩
end Go.Proofs
