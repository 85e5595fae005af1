/-
  The numbers under which this dump holds the library's lock's functions and types, and that it holds them. Checked by the kernel as it is compiled.
-/
import Derived.Test.Qxb6615029aProg
import Derived.Conc.MuLib
import Derived.KernelRfl
namespace Go.Proofs
abbrev Try.muLink : Go.Conc.Locks.MuLink := { lock := 26, unlock := 27, ilock := 31, iunlock := 32, lockSlow := 39, unlockSlow := 42, disable := 35, enable := 37, acquire := 38, relMerge := 40, cas32 := 36, add32 := 41, tMutex := 55, tIMutex := 53, tPMutex := 60, tPIMutex := 63, tPI32 := 65, tUP := 67, tNoCopy := 51, tU32 := 22 }
theorem Try.muLib : Go.Conc.Locks.MuLib Try.prog Try.muLink :=
  ⟨Try.func26, Try.func27, Try.func31, Try.func32, Try.func35, Try.func37, Try.func38, Try.func40, Try.func36, Try.func41, Try.underlying53, Try.runUnderlying53, Try.sizeOf53, Try.isAgg53, Try.zeroValue53, Try.underlying55, Try.runUnderlying55, Try.sizeOf55, Try.isAgg55, Try.zeroValue55, Try.underlying60, Try.runUnderlying60, Try.sizeOf60, Try.isAgg60, Try.zeroValue60, Try.underlying63, Try.runUnderlying63, Try.sizeOf63, Try.isAgg63, Try.zeroValue63, Try.underlying65, Try.runUnderlying65, Try.sizeOf65, Try.isAgg65, Try.zeroValue65, Try.underlying67, Try.runUnderlying67, Try.sizeOf67, Try.isAgg67, Try.zeroValue67, Try.underlying51, Try.runUnderlying51, Try.sizeOf51, Try.isAgg51, Try.zeroValue51, Try.underlying21, Try.runUnderlying21, Try.sizeOf21, Try.isAgg21, Try.zeroValue21, (by kernel_rfl)⟩
end Go.Proofs
