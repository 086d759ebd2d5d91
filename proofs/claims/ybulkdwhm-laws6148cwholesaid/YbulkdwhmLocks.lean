import Derived.Test.YbulkdwhmProg
import Derived.Conc.RwLib
import Derived.Conc.MuData
import Derived.KernelRfl
namespace Go.Proofs
abbrev Yba.muLink : Go.Conc.Locks.MuLink := { lock := 17, unlock := 11, ilock := 30, iunlock := 23, lockSlow := 41, unlockSlow := 39, disable := 33, enable := 34, acquire := 36, relMerge := 37, cas32 := 35, add32 := 38, tMutex := 42, tIMutex := 40, tPMutex := 107, tPIMutex := 114, tPI32 := 116, tUP := 118, tNoCopy := 37, tU32 := 38 }
theorem Yba.muLib : Go.Conc.Locks.MuLib Yba.prog Yba.muLink :=
  ⟨Yba.func17, Yba.func11, Yba.func30, Yba.func23, Yba.func33, Yba.func34, Yba.func36, Yba.func37, Yba.func35, Yba.func38, Yba.underlying40, Yba.runUnderlying40, Yba.sizeOf40, Yba.isAgg40, Yba.zeroValue40, Yba.underlying42, Yba.runUnderlying42, Yba.sizeOf42, Yba.isAgg42, Yba.zeroValue42, Yba.underlying107, Yba.runUnderlying107, Yba.sizeOf107, Yba.isAgg107, Yba.zeroValue107, Yba.underlying114, Yba.runUnderlying114, Yba.sizeOf114, Yba.isAgg114, Yba.zeroValue114, Yba.underlying116, Yba.runUnderlying116, Yba.sizeOf116, Yba.isAgg116, Yba.zeroValue116, Yba.underlying118, Yba.runUnderlying118, Yba.sizeOf118, Yba.isAgg118, Yba.zeroValue118, Yba.underlying37, Yba.runUnderlying37, Yba.sizeOf37, Yba.isAgg37, Yba.zeroValue37, Yba.underlying21, Yba.runUnderlying21, Yba.sizeOf21, Yba.isAgg21, Yba.zeroValue21, (by kernel_rfl)⟩
end Go.Proofs
