/-
  The numbers under which this dump holds the library's lock. Conditions: none.
-/
import Derived.Test.YtobpghjknciobacFmtProg
import Derived.Conc.MuLib
import Derived.KernelRfl
namespace Go.Proofs.YtobpghjknciobacFmt.Locks
abbrev muLink : Go.Conc.Locks.MuLink := { lock := 11, unlock := 12, ilock := 20, iunlock := 21, lockSlow := 29, unlockSlow := 32, disable := 25, enable := 27, acquire := 28, relMerge := 30, cas32 := 26, add32 := 31, tMutex := 60, tIMutex := 58, tPMutex := 74, tPIMutex := 82, tPI32 := 84, tUP := 86, tNoCopy := 56, tU32 := 42 }
theorem muLib : Go.Conc.Locks.MuLib Tryf.prog muLink :=
  ⟨Tryf.func11, Tryf.func12, Tryf.func20, Tryf.func21, Tryf.func25, Tryf.func27, Tryf.func28, Tryf.func30, Tryf.func26, Tryf.func31, Tryf.underlying58, Tryf.runUnderlying58, Tryf.sizeOf58, Tryf.isAgg58, Tryf.zeroValue58, Tryf.underlying60, Tryf.runUnderlying60, Tryf.sizeOf60, Tryf.isAgg60, Tryf.zeroValue60, Tryf.underlying74, Tryf.runUnderlying74, Tryf.sizeOf74, Tryf.isAgg74, Tryf.zeroValue74, Tryf.underlying82, Tryf.runUnderlying82, Tryf.sizeOf82, Tryf.isAgg82, Tryf.zeroValue82, Tryf.underlying84, Tryf.runUnderlying84, Tryf.sizeOf84, Tryf.isAgg84, Tryf.zeroValue84, Tryf.underlying86, Tryf.runUnderlying86, Tryf.sizeOf86, Tryf.isAgg86, Tryf.zeroValue86, Tryf.underlying56, Tryf.runUnderlying56, Tryf.sizeOf56, Tryf.isAgg56, Tryf.zeroValue56, Tryf.underlying21, Tryf.runUnderlying21, Tryf.sizeOf21, Tryf.isAgg21, Tryf.zeroValue21, (by kernel_rfl)⟩
end Go.Proofs.YtobpghjknciobacFmt.Locks
