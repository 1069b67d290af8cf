import Derived.Test.YbulkbzxqProg
import Derived.Conc.RwLib
import Derived.Conc.MuData
import Derived.KernelRfl
namespace Go.Proofs
abbrev Yba.muLink : Go.Conc.Locks.MuLink := { lock := 10, unlock := 11, ilock := 12, iunlock := 13, lockSlow := 18, unlockSlow := 21, disable := 14, enable := 16, acquire := 17, relMerge := 19, cas32 := 15, add32 := 20, tMutex := 32, tIMutex := 30, tPMutex := 47, tPIMutex := 48, tPI32 := 50, tUP := 52, tNoCopy := 27, tU32 := 28 }
theorem Yba.muLib : Go.Conc.Locks.MuLib Yba.prog Yba.muLink :=
  ⟨Yba.func10, Yba.func11, Yba.func12, Yba.func13, Yba.func14, Yba.func16, Yba.func17, Yba.func19, Yba.func15, Yba.func20, Yba.underlying30, Yba.runUnderlying30, Yba.sizeOf30, Yba.isAgg30, Yba.zeroValue30, Yba.underlying32, Yba.runUnderlying32, Yba.sizeOf32, Yba.isAgg32, Yba.zeroValue32, Yba.underlying47, Yba.runUnderlying47, Yba.sizeOf47, Yba.isAgg47, Yba.zeroValue47, Yba.underlying48, Yba.runUnderlying48, Yba.sizeOf48, Yba.isAgg48, Yba.zeroValue48, Yba.underlying50, Yba.runUnderlying50, Yba.sizeOf50, Yba.isAgg50, Yba.zeroValue50, Yba.underlying52, Yba.runUnderlying52, Yba.sizeOf52, Yba.isAgg52, Yba.zeroValue52, Yba.underlying27, Yba.runUnderlying27, Yba.sizeOf27, Yba.isAgg27, Yba.zeroValue27, Yba.underlying21, Yba.runUnderlying21, Yba.sizeOf21, Yba.isAgg21, Yba.zeroValue21, (by kernel_rfl)⟩
end Go.Proofs
