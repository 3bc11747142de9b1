/-
  The numbers under which this dump holds the library's lock. Conditions: none.
-/
import Derived.Test.YtobpghjknciobadFmtProg
import Derived.Conc.MuLib
import Derived.KernelRfl
namespace Go.Proofs.YtobpghjknciobadFmt.Locks
abbrev muLink : Go.Conc.Locks.MuLink := { lock := 9, unlock := 10, ilock := 20, iunlock := 21, lockSlow := 29, unlockSlow := 32, disable := 25, enable := 27, acquire := 28, relMerge := 30, cas32 := 26, add32 := 31, tMutex := 58, tIMutex := 56, tPMutex := 76, tPIMutex := 84, tPI32 := 86, tUP := 88, tNoCopy := 54, tU32 := 43 }
theorem muLib : Go.Conc.Locks.MuLib Tryf.prog muLink :=
  ⟨Tryf.func9, Tryf.func10, Tryf.func20, Tryf.func21, Tryf.func25, Tryf.func27, Tryf.func28, Tryf.func30, Tryf.func26, Tryf.func31, Tryf.underlying56, Tryf.runUnderlying56, Tryf.sizeOf56, Tryf.isAgg56, Tryf.zeroValue56, Tryf.underlying58, Tryf.runUnderlying58, Tryf.sizeOf58, Tryf.isAgg58, Tryf.zeroValue58, Tryf.underlying76, Tryf.runUnderlying76, Tryf.sizeOf76, Tryf.isAgg76, Tryf.zeroValue76, Tryf.underlying84, Tryf.runUnderlying84, Tryf.sizeOf84, Tryf.isAgg84, Tryf.zeroValue84, Tryf.underlying86, Tryf.runUnderlying86, Tryf.sizeOf86, Tryf.isAgg86, Tryf.zeroValue86, Tryf.underlying88, Tryf.runUnderlying88, Tryf.sizeOf88, Tryf.isAgg88, Tryf.zeroValue88, Tryf.underlying54, Tryf.runUnderlying54, Tryf.sizeOf54, Tryf.isAgg54, Tryf.zeroValue54, Tryf.underlying21, Tryf.runUnderlying21, Tryf.sizeOf21, Tryf.isAgg21, Tryf.zeroValue21, (by kernel_rfl)⟩
end Go.Proofs.YtobpghjknciobadFmt.Locks
