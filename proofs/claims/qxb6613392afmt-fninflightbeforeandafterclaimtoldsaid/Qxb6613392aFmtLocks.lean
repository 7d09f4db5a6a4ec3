/-
  The numbers under which this dump holds sync.Mutex's functions and types (after the guide's worked StatsLocks.lean), checked by the kernel.
-/
import Derived.Test.Qxb6613392aFmtRows
import Derived.Conc.MuData
import Derived.Conc.MuLone
import Derived.KernelRfl
namespace Go.Proofs.Qxb6613392aFmt
abbrev Tryf.muLink : Go.Conc.Locks.MuLink := { lock := 19, unlock := 20, ilock := 23, iunlock := 24, lockSlow := 31, unlockSlow := 34, disable := 27, enable := 29, acquire := 30, relMerge := 32, cas32 := 28, add32 := 33, tMutex := 49, tIMutex := 47, tPMutex := 88, tPIMutex := 91, tPI32 := 93, tUP := 95, tNoCopy := 44, tU32 := 45 }
theorem Tryf.muLib : Go.Conc.Locks.MuLib Tryf.prog Tryf.muLink :=
  ⟨Tryf.func19, Tryf.func20, Tryf.func23, Tryf.func24, Tryf.func27, Tryf.func29, Tryf.func30, Tryf.func32, Tryf.func28, Tryf.func33, Tryf.underlying47, Tryf.runUnderlying47, Tryf.sizeOf47, Tryf.isAgg47, Tryf.zeroValue47, Tryf.underlying49, Tryf.runUnderlying49, Tryf.sizeOf49, Tryf.isAgg49, Tryf.zeroValue49, Tryf.underlying88, Tryf.runUnderlying88, Tryf.sizeOf88, Tryf.isAgg88, Tryf.zeroValue88, Tryf.underlying91, Tryf.runUnderlying91, Tryf.sizeOf91, Tryf.isAgg91, Tryf.zeroValue91, Tryf.underlying93, Tryf.runUnderlying93, Tryf.sizeOf93, Tryf.isAgg93, Tryf.zeroValue93, Tryf.underlying95, Tryf.runUnderlying95, Tryf.sizeOf95, Tryf.isAgg95, Tryf.zeroValue95, Tryf.underlying44, Tryf.runUnderlying44, Tryf.sizeOf44, Tryf.isAgg44, Tryf.zeroValue44, Tryf.underlying21, Tryf.runUnderlying21, Tryf.sizeOf21, Tryf.isAgg21, Tryf.zeroValue21, (by kernel_rfl)⟩
end Go.Proofs.Qxb6613392aFmt
