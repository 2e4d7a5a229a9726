import Derived.Test.YbulkdjlcProg
import Derived.Conc.RwLib
import Derived.Conc.MuData
import Derived.KernelRfl
namespace Go.Proofs
abbrev Yba.muLink : Go.Conc.Locks.MuLink := { lock := 13, unlock := 7, ilock := 19, iunlock := 16, lockSlow := 28, unlockSlow := 27, disable := 21, enable := 22, acquire := 24, relMerge := 25, cas32 := 23, add32 := 26, tMutex := 31, tIMutex := 29, tPMutex := 60, tPIMutex := 64, tPI32 := 66, tUP := 68, tNoCopy := 26, tU32 := 27 }
theorem Yba.muLib : Go.Conc.Locks.MuLib Yba.prog Yba.muLink :=
  ⟨Yba.func13, Yba.func7, Yba.func19, Yba.func16, Yba.func21, Yba.func22, Yba.func24, Yba.func25, Yba.func23, Yba.func26, Yba.underlying29, Yba.runUnderlying29, Yba.sizeOf29, Yba.isAgg29, Yba.zeroValue29, Yba.underlying31, Yba.runUnderlying31, Yba.sizeOf31, Yba.isAgg31, Yba.zeroValue31, Yba.underlying60, Yba.runUnderlying60, Yba.sizeOf60, Yba.isAgg60, Yba.zeroValue60, Yba.underlying64, Yba.runUnderlying64, Yba.sizeOf64, Yba.isAgg64, Yba.zeroValue64, Yba.underlying66, Yba.runUnderlying66, Yba.sizeOf66, Yba.isAgg66, Yba.zeroValue66, Yba.underlying68, Yba.runUnderlying68, Yba.sizeOf68, Yba.isAgg68, Yba.zeroValue68, Yba.underlying26, Yba.runUnderlying26, Yba.sizeOf26, Yba.isAgg26, Yba.zeroValue26, Yba.underlying21, Yba.runUnderlying21, Yba.sizeOf21, Yba.isAgg21, Yba.zeroValue21, (by kernel_rfl)⟩
end Go.Proofs
