import Derived.Test.YbulkdweuProg
import Derived.Conc.RwLib
import Derived.Conc.MuData
import Derived.KernelRfl
namespace Go.Proofs
abbrev Yba.muLink : Go.Conc.Locks.MuLink := { lock := 14, unlock := 11, ilock := 19, iunlock := 16, lockSlow := 27, unlockSlow := 26, disable := 20, enable := 21, acquire := 23, relMerge := 24, cas32 := 22, add32 := 25, tMutex := 58, tIMutex := 56, tPMutex := 90, tPIMutex := 93, tPI32 := 95, tUP := 76, tNoCopy := 54, tU32 := 22 }
theorem Yba.muLib : Go.Conc.Locks.MuLib Yba.prog Yba.muLink :=
  ⟨Yba.func14, Yba.func11, Yba.func19, Yba.func16, Yba.func20, Yba.func21, Yba.func23, Yba.func24, Yba.func22, Yba.func25, Yba.underlying56, Yba.runUnderlying56, Yba.sizeOf56, Yba.isAgg56, Yba.zeroValue56, Yba.underlying58, Yba.runUnderlying58, Yba.sizeOf58, Yba.isAgg58, Yba.zeroValue58, Yba.underlying90, Yba.runUnderlying90, Yba.sizeOf90, Yba.isAgg90, Yba.zeroValue90, Yba.underlying93, Yba.runUnderlying93, Yba.sizeOf93, Yba.isAgg93, Yba.zeroValue93, Yba.underlying95, Yba.runUnderlying95, Yba.sizeOf95, Yba.isAgg95, Yba.zeroValue95, Yba.underlying76, Yba.runUnderlying76, Yba.sizeOf76, Yba.isAgg76, Yba.zeroValue76, Yba.underlying54, Yba.runUnderlying54, Yba.sizeOf54, Yba.isAgg54, Yba.zeroValue54, Yba.underlying21, Yba.runUnderlying21, Yba.sizeOf21, Yba.isAgg21, Yba.zeroValue21, (by kernel_rfl)⟩
end Go.Proofs
