/-
  The numbers under which this program holds the functions and types of sync.RWMutex's reader, and that it holds them.
-/
import Derived.Test.YteonaghjhjnijaaProg
import Derived.Conc.RwLib
import Derived.Conc.RwLone
import Derived.KernelRfl
namespace Go.Proofs
abbrev Try.rwLink : Go.Conc.Locks.RwLink := { lock := 0, unlock := 0, ilock := 0, iunlock := 0, lockSlow := 0, unlockSlow := 0, disable := 18, enable := 21, acquire := 22, relMerge := 23, cas32 := 0, add32 := 26, tMutex := 39, tIMutex := 37, tPMutex := 59, tPIMutex := 0, tPI32 := 66, tUP := 58, tNoCopy := 34, tU32 := 35, rlock := 12, runlock := 13, wlock := 0, wunlock := 0, i32add := 19, raceRead := 17, release := 0, rUnlockSlow := 24, semacqR := 20, semacqW := 0, semrel := 28, sfatal := 27, tRW := 44, tPRW := 56, tAI32 := 42, tPAI32 := 64, tPU32 := 62, tANoCopy := 40 }
theorem Try.rwCore : Go.Conc.Locks.RwCore Try.prog Try.rwLink :=
  ⟨Try.func19, Try.func17, Try.func18, Try.func21, Try.func22, Try.func23, Try.func26, Try.underlying44, Try.runUnderlying44, Try.sizeOf44, Try.isAgg44, Try.zeroValue44, Try.underlying42, Try.runUnderlying42, Try.sizeOf42, Try.isAgg42, Try.zeroValue42, Try.underlying56, Try.runUnderlying56, Try.sizeOf56, Try.isAgg56, Try.zeroValue56, Try.underlying64, Try.runUnderlying64, Try.sizeOf64, Try.isAgg64, Try.zeroValue64, Try.underlying62, Try.runUnderlying62, Try.sizeOf62, Try.isAgg62, Try.zeroValue62, Try.underlying40, Try.runUnderlying40, Try.sizeOf40, Try.isAgg40, Try.zeroValue40, Try.underlying35, Try.runUnderlying35, Try.sizeOf35, Try.isAgg35, Try.zeroValue35, Try.underlying39, Try.runUnderlying39, Try.sizeOf39, Try.isAgg39, Try.zeroValue39, Try.underlying59, Try.runUnderlying59, Try.sizeOf59, Try.isAgg59, Try.zeroValue59, Try.underlying66, Try.runUnderlying66, Try.sizeOf66, Try.isAgg66, Try.zeroValue66, Try.underlying58, Try.runUnderlying58, Try.sizeOf58, Try.isAgg58, Try.zeroValue58, Try.underlying21, Try.runUnderlying21, Try.sizeOf21, Try.isAgg21, Try.zeroValue21, (by kernel_rfl), (by kernel_rfl)⟩
theorem Try.rwRLib : Go.Conc.Locks.RwRLib Try.prog Try.rwLink := ⟨Try.rwCore, Try.func12, Try.func13⟩
end Go.Proofs
