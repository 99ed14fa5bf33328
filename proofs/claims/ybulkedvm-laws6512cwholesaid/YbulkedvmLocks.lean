import Derived.Test.YbulkedvmProg
import Derived.Conc.RwLib
import Derived.Conc.MuData
import Derived.KernelRfl
namespace Go.Proofs
abbrev Yba.muLink : Go.Conc.Locks.MuLink := { lock := 7, unlock := 6, ilock := 10, iunlock := 9, lockSlow := 18, unlockSlow := 17, disable := 11, enable := 12, acquire := 14, relMerge := 15, cas32 := 13, add32 := 16, tMutex := 43, tIMutex := 41, tPMutex := 58, tPIMutex := 59, tPI32 := 61, tUP := 63, tNoCopy := 38, tU32 := 39 }
theorem Yba.muLib : Go.Conc.Locks.MuLib Yba.prog Yba.muLink :=
  ⟨Yba.func7, Yba.func6, Yba.func10, Yba.func9, Yba.func11, Yba.func12, Yba.func14, Yba.func15, Yba.func13, Yba.func16, Yba.underlying41, Yba.runUnderlying41, Yba.sizeOf41, Yba.isAgg41, Yba.zeroValue41, Yba.underlying43, Yba.runUnderlying43, Yba.sizeOf43, Yba.isAgg43, Yba.zeroValue43, Yba.underlying58, Yba.runUnderlying58, Yba.sizeOf58, Yba.isAgg58, Yba.zeroValue58, Yba.underlying59, Yba.runUnderlying59, Yba.sizeOf59, Yba.isAgg59, Yba.zeroValue59, Yba.underlying61, Yba.runUnderlying61, Yba.sizeOf61, Yba.isAgg61, Yba.zeroValue61, Yba.underlying63, Yba.runUnderlying63, Yba.sizeOf63, Yba.isAgg63, Yba.zeroValue63, Yba.underlying38, Yba.runUnderlying38, Yba.sizeOf38, Yba.isAgg38, Yba.zeroValue38, Yba.underlying21, Yba.runUnderlying21, Yba.sizeOf21, Yba.isAgg21, Yba.zeroValue21, (by kernel_rfl)⟩
end Go.Proofs
