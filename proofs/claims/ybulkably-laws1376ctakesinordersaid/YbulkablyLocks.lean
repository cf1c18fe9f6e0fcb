/-
  The numbers under which this dump holds sync.Mutex's functions and types, and that it holds them (Derived/Conc/MuLib.lean).
-/
import Derived.Test.YbulkablyProg
import Derived.Conc.MuLib
import Derived.KernelRfl
namespace Go.Proofs
abbrev Yba.muLink : Go.Conc.Locks.MuLink := { lock := 9, unlock := 10, ilock := 12, iunlock := 13, lockSlow := 18, unlockSlow := 21, disable := 14, enable := 16, acquire := 17, relMerge := 19, cas32 := 15, add32 := 20, tMutex := 45, tIMutex := 43, tPMutex := 74, tPIMutex := 76, tPI32 := 78, tUP := 80, tNoCopy := 40, tU32 := 41 }
theorem Yba.muLib : Go.Conc.Locks.MuLib Yba.prog Yba.muLink :=
  ⟨Yba.func9, Yba.func10, Yba.func12, Yba.func13, Yba.func14, Yba.func16, Yba.func17, Yba.func19, Yba.func15, Yba.func20, Yba.underlying43, Yba.runUnderlying43, Yba.sizeOf43, Yba.isAgg43, Yba.zeroValue43, Yba.underlying45, Yba.runUnderlying45, Yba.sizeOf45, Yba.isAgg45, Yba.zeroValue45, Yba.underlying74, Yba.runUnderlying74, Yba.sizeOf74, Yba.isAgg74, Yba.zeroValue74, Yba.underlying76, Yba.runUnderlying76, Yba.sizeOf76, Yba.isAgg76, Yba.zeroValue76, Yba.underlying78, Yba.runUnderlying78, Yba.sizeOf78, Yba.isAgg78, Yba.zeroValue78, Yba.underlying80, Yba.runUnderlying80, Yba.sizeOf80, Yba.isAgg80, Yba.zeroValue80, Yba.underlying40, Yba.runUnderlying40, Yba.sizeOf40, Yba.isAgg40, Yba.zeroValue40, Yba.underlying21, Yba.runUnderlying21, Yba.sizeOf21, Yba.isAgg21, Yba.zeroValue21, (by kernel_rfl)⟩
end Go.Proofs
