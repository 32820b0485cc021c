/-
  The numbers under which this program's translation holds the functions and types of sync.Mutex, and that it holds them.
-/
import Derived.Test.YbulkeuwFmtCards
import Derived.Conc.MuLib
import Derived.KernelRfl
namespace Go.Proofs
abbrev Ybaf.muLink : Go.Conc.Locks.MuLink := { lock := 10, unlock := 11, ilock := 14, iunlock := 15, lockSlow := 21, unlockSlow := 24, disable := 17, enable := 19, acquire := 20, relMerge := 22, cas32 := 18, add32 := 23, tMutex := 50, tIMutex := 48, tPMutex := 79, tPIMutex := 82, tPI32 := 84, tUP := 86, tNoCopy := 45, tU32 := 46 }
theorem Ybaf.muLib : Go.Conc.Locks.MuLib Ybaf.prog Ybaf.muLink :=
  ⟨Ybaf.func10, Ybaf.func11, Ybaf.func14, Ybaf.func15, Ybaf.func17, Ybaf.func19, Ybaf.func20, Ybaf.func22, Ybaf.func18, Ybaf.func23, Ybaf.underlying48, Ybaf.runUnderlying48, Ybaf.sizeOf48, Ybaf.isAgg48, Ybaf.zeroValue48, Ybaf.underlying50, Ybaf.runUnderlying50, Ybaf.sizeOf50, Ybaf.isAgg50, Ybaf.zeroValue50, Ybaf.underlying79, Ybaf.runUnderlying79, Ybaf.sizeOf79, Ybaf.isAgg79, Ybaf.zeroValue79, Ybaf.underlying82, Ybaf.runUnderlying82, Ybaf.sizeOf82, Ybaf.isAgg82, Ybaf.zeroValue82, Ybaf.underlying84, Ybaf.runUnderlying84, Ybaf.sizeOf84, Ybaf.isAgg84, Ybaf.zeroValue84, Ybaf.underlying86, Ybaf.runUnderlying86, Ybaf.sizeOf86, Ybaf.isAgg86, Ybaf.zeroValue86, Ybaf.underlying45, Ybaf.runUnderlying45, Ybaf.sizeOf45, Ybaf.isAgg45, Ybaf.zeroValue45, Ybaf.underlying21, Ybaf.runUnderlying21, Ybaf.sizeOf21, Ybaf.isAgg21, Ybaf.zeroValue21, (by kernel_rfl)⟩
end Go.Proofs
