/-
  The numbers under which this dump holds the functions and types of sync.RWMutex's reader's side, and that it holds them (Derived/Conc/RwLib.lean). Numbers of what this dump does not hold stand as 0.
-/
import Derived.Test.Qxb6615212aRows
import Derived.Conc.RwLib
import Derived.Conc.RwLone
import Derived.KernelRfl
namespace Go.Proofs.Qxb6615212a
abbrev rwLink : Go.Conc.Locks.RwLink := { lock := 0, unlock := 0, ilock := 0, iunlock := 0, lockSlow := 0, unlockSlow := 0, disable := 25, enable := 28, acquire := 29, relMerge := 30, cas32 := 0, add32 := 32, tMutex := 55, tIMutex := 53, tPMutex := 69, tPIMutex := 0, tPI32 := 76, tUP := 68, tNoCopy := 50, tU32 := 51, rlock := 22, runlock := 23, wlock := 0, wunlock := 0, i32add := 26, raceRead := 24, release := 0, rUnlockSlow := 31, semacqR := 27, semacqW := 0, semrel := 34, sfatal := 33, tRW := 60, tPRW := 66, tAI32 := 58, tPAI32 := 74, tPU32 := 72, tANoCopy := 56 }
theorem rwCore : Go.Conc.Locks.RwCore Try.prog rwLink :=
  ⟨Try.func26, Try.func24, Try.func25, Try.func28, Try.func29, Try.func30, Try.func32, Try.underlying60, Try.runUnderlying60, Try.sizeOf60, Try.isAgg60, Try.zeroValue60, Try.underlying58, Try.runUnderlying58, Try.sizeOf58, Try.isAgg58, Try.zeroValue58, Try.underlying66, Try.runUnderlying66, Try.sizeOf66, Try.isAgg66, Try.zeroValue66, Try.underlying74, Try.runUnderlying74, Try.sizeOf74, Try.isAgg74, Try.zeroValue74, Try.underlying72, Try.runUnderlying72, Try.sizeOf72, Try.isAgg72, Try.zeroValue72, Try.underlying56, Try.runUnderlying56, Try.sizeOf56, Try.isAgg56, Try.zeroValue56, Try.underlying51, Try.runUnderlying51, Try.sizeOf51, Try.isAgg51, Try.zeroValue51, Try.underlying55, Try.runUnderlying55, Try.sizeOf55, Try.isAgg55, Try.zeroValue55, Try.underlying69, Try.runUnderlying69, Try.sizeOf69, Try.isAgg69, Try.zeroValue69, Try.underlying76, Try.runUnderlying76, Try.sizeOf76, Try.isAgg76, Try.zeroValue76, Try.underlying68, Try.runUnderlying68, Try.sizeOf68, Try.isAgg68, Try.zeroValue68, Try.underlying21, Try.runUnderlying21, Try.sizeOf21, Try.isAgg21, Try.zeroValue21, (by kernel_rfl), (by kernel_rfl)⟩
theorem rwRLib : Go.Conc.Locks.RwRLib Try.prog rwLink := ⟨rwCore, Try.func22, Try.func23⟩
end Go.Proofs.Qxb6615212a
