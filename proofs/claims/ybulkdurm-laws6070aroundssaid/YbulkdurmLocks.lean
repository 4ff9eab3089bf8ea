/-
  The numbers under which this dump holds the library's lock's functions and types, and that it holds them (Derived/Conc/MuLib.lean): checked by the kernel.
-/
import Derived.Test.YbulkdurmProg
import Derived.Conc.MuLib
import Derived.KernelRfl
namespace Go.Proofs
abbrev Yba.muLink : Go.Conc.Locks.MuLink := { lock := 11, unlock := 12, ilock := 14, iunlock := 15, lockSlow := 20, unlockSlow := 23, disable := 16, enable := 18, acquire := 19, relMerge := 21, cas32 := 17, add32 := 22, tMutex := 36, tIMutex := 34, tPMutex := 53, tPIMutex := 54, tPI32 := 56, tUP := 58, tNoCopy := 31, tU32 := 32 }
theorem Yba.muLib : Go.Conc.Locks.MuLib Yba.prog Yba.muLink :=
  ⟨Yba.func11, Yba.func12, Yba.func14, Yba.func15, Yba.func16, Yba.func18, Yba.func19, Yba.func21, Yba.func17, Yba.func22, Yba.underlying34, Yba.runUnderlying34, Yba.sizeOf34, Yba.isAgg34, Yba.zeroValue34, Yba.underlying36, Yba.runUnderlying36, Yba.sizeOf36, Yba.isAgg36, Yba.zeroValue36, Yba.underlying53, Yba.runUnderlying53, Yba.sizeOf53, Yba.isAgg53, Yba.zeroValue53, Yba.underlying54, Yba.runUnderlying54, Yba.sizeOf54, Yba.isAgg54, Yba.zeroValue54, Yba.underlying56, Yba.runUnderlying56, Yba.sizeOf56, Yba.isAgg56, Yba.zeroValue56, Yba.underlying58, Yba.runUnderlying58, Yba.sizeOf58, Yba.isAgg58, Yba.zeroValue58, Yba.underlying31, Yba.runUnderlying31, Yba.sizeOf31, Yba.isAgg31, Yba.zeroValue31, Yba.underlying21, Yba.runUnderlying21, Yba.sizeOf21, Yba.isAgg21, Yba.zeroValue21, (by kernel_rfl)⟩
end Go.Proofs
