/-
  The numbers under which this dump holds sync.Mutex's functions and types, and that it holds them.
-/
import Derived.Test.Qxb6616364aProg
import Derived.Conc.RwLib
import Derived.Conc.MuData
import Derived.KernelRfl
namespace Go.Proofs.Qxb6616364a
abbrev Try.muLink : Go.Conc.Locks.MuLink := { lock := 27, unlock := 28, ilock := 39, iunlock := 40, lockSlow := 55, unlockSlow := 58, disable := 51, enable := 53, acquire := 54, relMerge := 56, cas32 := 52, add32 := 57, tMutex := 72, tIMutex := 70, tPMutex := 123, tPIMutex := 150, tPI32 := 152, tUP := 125, tNoCopy := 67, tU32 := 68 }
theorem Try.muLib : Go.Conc.Locks.MuLib Try.prog Try.muLink :=
  ⟨Try.func27, Try.func28, Try.func39, Try.func40, Try.func51, Try.func53, Try.func54, Try.func56, Try.func52, Try.func57, Try.underlying70, Try.runUnderlying70, Try.sizeOf70, Try.isAgg70, Try.zeroValue70, Try.underlying72, Try.runUnderlying72, Try.sizeOf72, Try.isAgg72, Try.zeroValue72, Try.underlying123, Try.runUnderlying123, Try.sizeOf123, Try.isAgg123, Try.zeroValue123, Try.underlying150, Try.runUnderlying150, Try.sizeOf150, Try.isAgg150, Try.zeroValue150, Try.underlying152, Try.runUnderlying152, Try.sizeOf152, Try.isAgg152, Try.zeroValue152, Try.underlying125, Try.runUnderlying125, Try.sizeOf125, Try.isAgg125, Try.zeroValue125, Try.underlying67, Try.runUnderlying67, Try.sizeOf67, Try.isAgg67, Try.zeroValue67, Try.underlying21, Try.runUnderlying21, Try.sizeOf21, Try.isAgg21, Try.zeroValue21, (by kernel_rfl)⟩
end Go.Proofs.Qxb6616364a
