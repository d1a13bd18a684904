/-
  The numbers under which this dump holds sync.Mutex's functions and types, and that it holds them (Derived/Conc/MuLib.lean). Typed by hand (the tool is not here) after the guide's chapter on locks; the kernel checks every number.
-/
import Derived.Test.YbulkeineProg
import Derived.Conc.MuLib
import Derived.KernelRfl
namespace Go.Proofs
abbrev Yba.muLink : Go.Conc.Locks.MuLink := { lock := 15, unlock := 16, ilock := 23, iunlock := 24, lockSlow := 32, unlockSlow := 35, disable := 28, enable := 30, acquire := 31, relMerge := 33, cas32 := 29, add32 := 34, tMutex := 34, tIMutex := 32, tPMutex := 73, tPIMutex := 78, tPI32 := 80, tUP := 82, tNoCopy := 29, tU32 := 30 }
theorem Yba.muLib : Go.Conc.Locks.MuLib Yba.prog Yba.muLink :=
  ⟨Yba.func15, Yba.func16, Yba.func23, Yba.func24, Yba.func28, Yba.func30, Yba.func31, Yba.func33, Yba.func29, Yba.func34, Yba.underlying32, Yba.runUnderlying32, Yba.sizeOf32, Yba.isAgg32, Yba.zeroValue32, Yba.underlying34, Yba.runUnderlying34, Yba.sizeOf34, Yba.isAgg34, Yba.zeroValue34, Yba.underlying73, Yba.runUnderlying73, Yba.sizeOf73, Yba.isAgg73, Yba.zeroValue73, Yba.underlying78, Yba.runUnderlying78, Yba.sizeOf78, Yba.isAgg78, Yba.zeroValue78, Yba.underlying80, Yba.runUnderlying80, Yba.sizeOf80, Yba.isAgg80, Yba.zeroValue80, Yba.underlying82, Yba.runUnderlying82, Yba.sizeOf82, Yba.isAgg82, Yba.zeroValue82, Yba.underlying29, Yba.runUnderlying29, Yba.sizeOf29, Yba.isAgg29, Yba.zeroValue29, Yba.underlying21, Yba.runUnderlying21, Yba.sizeOf21, Yba.isAgg21, Yba.zeroValue21, (by kernel_rfl)⟩
end Go.Proofs
