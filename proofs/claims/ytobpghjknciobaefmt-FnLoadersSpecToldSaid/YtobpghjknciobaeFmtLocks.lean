/-
  The numbers under which this dump holds the library's lock. Conditions: none.
-/
import Derived.Test.YtobpghjknciobaeFmtProg
import Derived.Conc.MuLib
import Derived.KernelRfl
namespace Go.Proofs.YtobpghjknciobaeFmt.Locks
abbrev muLink : Go.Conc.Locks.MuLink := { lock := 12, unlock := 13, ilock := 23, iunlock := 24, lockSlow := 31, unlockSlow := 34, disable := 27, enable := 29, acquire := 30, relMerge := 32, cas32 := 28, add32 := 33, tMutex := 56, tIMutex := 54, tPMutex := 72, tPIMutex := 79, tPI32 := 81, tUP := 83, tNoCopy := 51, tU32 := 52 }
theorem muLib : Go.Conc.Locks.MuLib Tryf.prog muLink :=
  ⟨Tryf.func12, Tryf.func13, Tryf.func23, Tryf.func24, Tryf.func27, Tryf.func29, Tryf.func30, Tryf.func32, Tryf.func28, Tryf.func33, Tryf.underlying54, Tryf.runUnderlying54, Tryf.sizeOf54, Tryf.isAgg54, Tryf.zeroValue54, Tryf.underlying56, Tryf.runUnderlying56, Tryf.sizeOf56, Tryf.isAgg56, Tryf.zeroValue56, Tryf.underlying72, Tryf.runUnderlying72, Tryf.sizeOf72, Tryf.isAgg72, Tryf.zeroValue72, Tryf.underlying79, Tryf.runUnderlying79, Tryf.sizeOf79, Tryf.isAgg79, Tryf.zeroValue79, Tryf.underlying81, Tryf.runUnderlying81, Tryf.sizeOf81, Tryf.isAgg81, Tryf.zeroValue81, Tryf.underlying83, Tryf.runUnderlying83, Tryf.sizeOf83, Tryf.isAgg83, Tryf.zeroValue83, Tryf.underlying51, Tryf.runUnderlying51, Tryf.sizeOf51, Tryf.isAgg51, Tryf.zeroValue51, Tryf.underlying21, Tryf.runUnderlying21, Tryf.sizeOf21, Tryf.isAgg21, Tryf.zeroValue21, (by kernel_rfl)⟩
end Go.Proofs.YtobpghjknciobaeFmt.Locks
