/-
  Seat b6613043aD: the numbers under which this dump holds sync.Mutex's functions and types, and that it holds them (after the guide's chapter on locks).
-/
import Derived.Test.Qxb6613043aDoorProg
import Derived.Conc.RwLib
import Derived.KernelRfl
namespace Go.Proofs
abbrev Tryd.muLink : Go.Conc.Locks.MuLink := { lock := 16, unlock := 17, ilock := 23, iunlock := 24, lockSlow := 32, unlockSlow := 35, disable := 28, enable := 30, acquire := 31, relMerge := 33, cas32 := 29, add32 := 34, tMutex := 40, tIMutex := 38, tPMutex := 66, tPIMutex := 71, tPI32 := 73, tUP := 75, tNoCopy := 35, tU32 := 36 }
theorem Tryd.muLib : Go.Conc.Locks.MuLib Tryd.prog Tryd.muLink :=
  ⟨Tryd.func16, Tryd.func17, Tryd.func23, Tryd.func24, Tryd.func28, Tryd.func30, Tryd.func31, Tryd.func33, Tryd.func29, Tryd.func34, Tryd.underlying38, Tryd.runUnderlying38, Tryd.sizeOf38, Tryd.isAgg38, Tryd.zeroValue38, Tryd.underlying40, Tryd.runUnderlying40, Tryd.sizeOf40, Tryd.isAgg40, Tryd.zeroValue40, Tryd.underlying66, Tryd.runUnderlying66, Tryd.sizeOf66, Tryd.isAgg66, Tryd.zeroValue66, Tryd.underlying71, Tryd.runUnderlying71, Tryd.sizeOf71, Tryd.isAgg71, Tryd.zeroValue71, Tryd.underlying73, Tryd.runUnderlying73, Tryd.sizeOf73, Tryd.isAgg73, Tryd.zeroValue73, Tryd.underlying75, Tryd.runUnderlying75, Tryd.sizeOf75, Tryd.isAgg75, Tryd.zeroValue75, Tryd.underlying35, Tryd.runUnderlying35, Tryd.sizeOf35, Tryd.isAgg35, Tryd.zeroValue35, Tryd.underlying21, Tryd.runUnderlying21, Tryd.sizeOf21, Tryd.isAgg21, Tryd.zeroValue21, (by kernel_rfl)⟩
end Go.Proofs
