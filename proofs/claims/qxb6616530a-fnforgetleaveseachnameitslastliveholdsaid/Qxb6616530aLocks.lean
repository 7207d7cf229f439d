/-
  The numbers under which this dump holds sync.Mutex's functions and types, and that it holds them (after the guide's worked text for another dump; checked by the kernel as it is compiled).
-/
import Derived.Test.Qxb6616530aProg
import Derived.Conc.MuLib
import Derived.Conc.MuLone
import Derived.KernelRfl
namespace Go.Proofs
abbrev Try.muLink : Go.Conc.Locks.MuLink := { lock := 25, unlock := 26, ilock := 27, iunlock := 28, lockSlow := 33, unlockSlow := 36, disable := 29, enable := 31, acquire := 32, relMerge := 34, cas32 := 30, add32 := 35, tMutex := 58, tIMutex := 56, tPMutex := 90, tPIMutex := 91, tPI32 := 93, tUP := 95, tNoCopy := 53, tU32 := 54 }
theorem Try.muLib : Go.Conc.Locks.MuLib Try.prog Try.muLink :=
  ⟨Try.func25, Try.func26, Try.func27, Try.func28, Try.func29, Try.func31, Try.func32, Try.func34, Try.func30, Try.func35, Try.underlying56, Try.runUnderlying56, Try.sizeOf56, Try.isAgg56, Try.zeroValue56, Try.underlying58, Try.runUnderlying58, Try.sizeOf58, Try.isAgg58, Try.zeroValue58, Try.underlying90, Try.runUnderlying90, Try.sizeOf90, Try.isAgg90, Try.zeroValue90, Try.underlying91, Try.runUnderlying91, Try.sizeOf91, Try.isAgg91, Try.zeroValue91, Try.underlying93, Try.runUnderlying93, Try.sizeOf93, Try.isAgg93, Try.zeroValue93, Try.underlying95, Try.runUnderlying95, Try.sizeOf95, Try.isAgg95, Try.zeroValue95, Try.underlying53, Try.runUnderlying53, Try.sizeOf53, Try.isAgg53, Try.zeroValue53, Try.underlying21, Try.runUnderlying21, Try.sizeOf21, Try.isAgg21, Try.zeroValue21, (by kernel_rfl)⟩
end Go.Proofs
