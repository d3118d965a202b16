/-
  The numbers under which this dump holds sync.Mutex's functions and types; that it holds them (Derived/Conc/MuLib.lean).
-/
import Derived.Test.YbulkbwnwRows
import Derived.Conc.MuLone
import Derived.KernelRfl
namespace Go.Proofs
abbrev Yba.muLink : Go.Conc.Locks.MuLink := { lock := 8, unlock := 7, ilock := 11, iunlock := 10, lockSlow := 19, unlockSlow := 18, disable := 12, enable := 13, acquire := 15, relMerge := 16, cas32 := 14, add32 := 17, tMutex := 46, tIMutex := 44, tPMutex := 54, tPIMutex := 55, tPI32 := 57, tUP := 59, tNoCopy := 42, tU32 := 34 }
theorem Yba.muLib : Go.Conc.Locks.MuLib Yba.prog Yba.muLink :=
  ⟨Yba.func8, Yba.func7, Yba.func11, Yba.func10, Yba.func12, Yba.func13, Yba.func15, Yba.func16, Yba.func14, Yba.func17, Yba.underlying44, Yba.runUnderlying44, Yba.sizeOf44, Yba.isAgg44, Yba.zeroValue44, Yba.underlying46, Yba.runUnderlying46, Yba.sizeOf46, Yba.isAgg46, Yba.zeroValue46, Yba.underlying54, Yba.runUnderlying54, Yba.sizeOf54, Yba.isAgg54, Yba.zeroValue54, Yba.underlying55, Yba.runUnderlying55, Yba.sizeOf55, Yba.isAgg55, Yba.zeroValue55, Yba.underlying57, Yba.runUnderlying57, Yba.sizeOf57, Yba.isAgg57, Yba.zeroValue57, Yba.underlying59, Yba.runUnderlying59, Yba.sizeOf59, Yba.isAgg59, Yba.zeroValue59, Yba.underlying42, Yba.runUnderlying42, Yba.sizeOf42, Yba.isAgg42, Yba.zeroValue42, Yba.underlying21, Yba.runUnderlying21, Yba.sizeOf21, Yba.isAgg21, Yba.zeroValue21, (by kernel_rfl)⟩
end Go.Proofs
