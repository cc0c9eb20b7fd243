/-
  The numbers under which this translation holds sync.Mutex's functions and types, and that it holds them (Derived/Conc/MuLib.lean). Typed after the kit's worked StatsLocks; checked by the kernel.
-/
import Derived.Test.YbulkcgdeProg
import Derived.Conc.RwLib
import Derived.Conc.MuLone
import Derived.KernelRfl
namespace Go.Proofs
abbrev Yba.muLink : Go.Conc.Locks.MuLink := { lock := 9, unlock := 7, ilock := 14, iunlock := 12, lockSlow := 22, unlockSlow := 21, disable := 15, enable := 16, acquire := 18, relMerge := 19, cas32 := 17, add32 := 20, tMutex := 48, tIMutex := 46, tPMutex := 62, tPIMutex := 64, tPI32 := 66, tUP := 68, tNoCopy := 43, tU32 := 44 }
theorem Yba.muLib : Go.Conc.Locks.MuLib Yba.prog Yba.muLink :=
  ⟨Yba.func9, Yba.func7, Yba.func14, Yba.func12, Yba.func15, Yba.func16, Yba.func18, Yba.func19, Yba.func17, Yba.func20, Yba.underlying46, Yba.runUnderlying46, Yba.sizeOf46, Yba.isAgg46, Yba.zeroValue46, Yba.underlying48, Yba.runUnderlying48, Yba.sizeOf48, Yba.isAgg48, Yba.zeroValue48, Yba.underlying62, Yba.runUnderlying62, Yba.sizeOf62, Yba.isAgg62, Yba.zeroValue62, Yba.underlying64, Yba.runUnderlying64, Yba.sizeOf64, Yba.isAgg64, Yba.zeroValue64, Yba.underlying66, Yba.runUnderlying66, Yba.sizeOf66, Yba.isAgg66, Yba.zeroValue66, Yba.underlying68, Yba.runUnderlying68, Yba.sizeOf68, Yba.isAgg68, Yba.zeroValue68, Yba.underlying43, Yba.runUnderlying43, Yba.sizeOf43, Yba.isAgg43, Yba.zeroValue43, Yba.underlying21, Yba.runUnderlying21, Yba.sizeOf21, Yba.isAgg21, Yba.zeroValue21, (by kernel_rfl)⟩
end Go.Proofs
