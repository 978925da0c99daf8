import Derived.Test.YbulkddrkProg
import Derived.Conc.MuLib
import Derived.KernelRfl
namespace Go.Proofs
abbrev Yba.muLink : Go.Conc.Locks.MuLink := { lock := 25, unlock := 14, ilock := 35, iunlock := 28, lockSlow := 50, unlockSlow := 42, disable := 36, enable := 37, acquire := 39, relMerge := 40, cas32 := 38, add32 := 41, tMutex := 35, tIMutex := 33, tPMutex := 122, tPIMutex := 138, tPI32 := 140, tUP := 27, tNoCopy := 30, tU32 := 31 }
theorem Yba.muLib : Go.Conc.Locks.MuLib Yba.prog Yba.muLink :=
  ⟨Yba.func25, Yba.func14, Yba.func35, Yba.func28, Yba.func36, Yba.func37, Yba.func39, Yba.func40, Yba.func38, Yba.func41, Yba.underlying33, Yba.runUnderlying33, Yba.sizeOf33, Yba.isAgg33, Yba.zeroValue33, Yba.underlying35, Yba.runUnderlying35, Yba.sizeOf35, Yba.isAgg35, Yba.zeroValue35, Yba.underlying122, Yba.runUnderlying122, Yba.sizeOf122, Yba.isAgg122, Yba.zeroValue122, Yba.underlying138, Yba.runUnderlying138, Yba.sizeOf138, Yba.isAgg138, Yba.zeroValue138, Yba.underlying140, Yba.runUnderlying140, Yba.sizeOf140, Yba.isAgg140, Yba.zeroValue140, Yba.underlying27, Yba.runUnderlying27, Yba.sizeOf27, Yba.isAgg27, Yba.zeroValue27, Yba.underlying30, Yba.runUnderlying30, Yba.sizeOf30, Yba.isAgg30, Yba.zeroValue30, Yba.underlying21, Yba.runUnderlying21, Yba.sizeOf21, Yba.isAgg21, Yba.zeroValue21, (by kernel_rfl)⟩
end Go.Proofs
