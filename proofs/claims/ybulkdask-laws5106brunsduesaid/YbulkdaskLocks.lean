import Derived.Test.YbulkdaskRows
import Derived.Conc.MuLib
import Derived.Conc.MuLone
import Derived.KernelRfl
namespace Go.Proofs
abbrev Yba.muLink : Go.Conc.Locks.MuLink := { lock := 18, unlock := 19, ilock := 33, iunlock := 34, lockSlow := 57, unlockSlow := 59, disable := 43, enable := 44, acquire := 56, relMerge := 42, cas32 := 55, add32 := 58, tMutex := 66, tIMutex := 64, tPMutex := 92, tPIMutex := 125, tPI32 := 127, tUP := 84, tNoCopy := 61, tU32 := 62 }
theorem Yba.muLib : Go.Conc.Locks.MuLib Yba.prog Yba.muLink :=
  ⟨Yba.func18, Yba.func19, Yba.func33, Yba.func34, Yba.func43, Yba.func44, Yba.func56, Yba.func42, Yba.func55, Yba.func58, Yba.underlying64, Yba.runUnderlying64, Yba.sizeOf64, Yba.isAgg64, Yba.zeroValue64, Yba.underlying66, Yba.runUnderlying66, Yba.sizeOf66, Yba.isAgg66, Yba.zeroValue66, Yba.underlying92, Yba.runUnderlying92, Yba.sizeOf92, Yba.isAgg92, Yba.zeroValue92, Yba.underlying125, Yba.runUnderlying125, Yba.sizeOf125, Yba.isAgg125, Yba.zeroValue125, Yba.underlying127, Yba.runUnderlying127, Yba.sizeOf127, Yba.isAgg127, Yba.zeroValue127, Yba.underlying84, Yba.runUnderlying84, Yba.sizeOf84, Yba.isAgg84, Yba.zeroValue84, Yba.underlying61, Yba.runUnderlying61, Yba.sizeOf61, Yba.isAgg61, Yba.zeroValue61, Yba.underlying21, Yba.runUnderlying21, Yba.sizeOf21, Yba.isAgg21, Yba.zeroValue21, (by kernel_rfl)⟩

namespace Ybulkdask.Lk
/-- '(*sync.Mutex).Lock', the lock free. -/
theorem lock (a : Addr) (w : World) (hc : w.cell? a = some (.int .i32 0)) (hz : w.frozen? a = false) :
    Calls Yba.prog 18 #[.pointer (some a)] w fun e w' => e = .returned (.tuple #[]) ∧ w' = w.setCell a (.int .i32 1) := Go.MuLone.lock_free Yba.muLib a w hc hz
/-- '(*sync.Mutex).Unlock', the lock held, nobody waiting. -/
theorem unlock (a : Addr) (w : World) (hc : w.cell? a = some (.int .i32 1)) (hz : w.frozen? a = false) :
    Calls Yba.prog 19 #[.pointer (some a)] w fun e w' => e = .returned (.tuple #[]) ∧ w' = w.setCell a (.int .i32 0) := Go.MuLone.unlock_held Yba.muLib a w hc hz
/-- The same, deferred. -/
theorem unlockD (a : Addr) (u : FrameMode) (w : World) (hc : w.cell? a = some (.int .i32 1)) (hz : w.frozen? a = false) :
    CallsD Yba.prog 19 #[.pointer (some a)] u w fun e u' w' => u' = u ∧ (e = .returned (.tuple #[]) ∧ w' = w.setCell a (.int .i32 0)) := Go.MuLone.unlock_deferred Yba.muLib a u w hc hz
end Ybulkdask.Lk
end Go.Proofs
