/-
  The numbers under which this dump holds the library's lock. Conditions: none.
-/
import Derived.Test.YtcljenkgbbbfpaaDoorProg
import Derived.Conc.MuLib
import Derived.KernelRfl
namespace Go.Proofs.YtcljenkgbbbfpaaDoor.Locks
abbrev muLink : Go.Conc.Locks.MuLink := { lock := 79, unlock := 80, ilock := 93, iunlock := 94, lockSlow := 104, unlockSlow := 107, disable := 100, enable := 102, acquire := 103, relMerge := 105, cas32 := 101, add32 := 106, tMutex := 134, tIMutex := 132, tPMutex := 149, tPIMutex := 160, tPI32 := 162, tUP := 147, tNoCopy := 130, tU32 := 54 }
theorem muLib : Go.Conc.Locks.MuLib Tryd.prog muLink :=
  ⟨Tryd.func79, Tryd.func80, Tryd.func93, Tryd.func94, Tryd.func100, Tryd.func102, Tryd.func103, Tryd.func105, Tryd.func101, Tryd.func106, Tryd.underlying132, Tryd.runUnderlying132, Tryd.sizeOf132, Tryd.isAgg132, Tryd.zeroValue132, Tryd.underlying134, Tryd.runUnderlying134, Tryd.sizeOf134, Tryd.isAgg134, Tryd.zeroValue134, Tryd.underlying149, Tryd.runUnderlying149, Tryd.sizeOf149, Tryd.isAgg149, Tryd.zeroValue149, Tryd.underlying160, Tryd.runUnderlying160, Tryd.sizeOf160, Tryd.isAgg160, Tryd.zeroValue160, Tryd.underlying162, Tryd.runUnderlying162, Tryd.sizeOf162, Tryd.isAgg162, Tryd.zeroValue162, Tryd.underlying147, Tryd.runUnderlying147, Tryd.sizeOf147, Tryd.isAgg147, Tryd.zeroValue147, Tryd.underlying130, Tryd.runUnderlying130, Tryd.sizeOf130, Tryd.isAgg130, Tryd.zeroValue130, Tryd.underlying21, Tryd.runUnderlying21, Tryd.sizeOf21, Tryd.isAgg21, Tryd.zeroValue21, (by kernel_rfl)⟩
end Go.Proofs.YtcljenkgbbbfpaaDoor.Locks
