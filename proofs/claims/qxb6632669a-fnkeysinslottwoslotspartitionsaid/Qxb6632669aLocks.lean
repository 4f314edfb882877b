/-
  SEAT b6632669a: the numbers under which this dump holds sync.RWMutex's reader's side, and that it holds them (Derived/Conc/RwLib.lean).
-/
import Derived.Test.Qxb6632669aProg
import Derived.Conc.RwLib
import Derived.KernelRfl
namespace Go.Proofs.Qxb6632669a
abbrev rwLink : Go.Conc.Locks.RwLink := { lock := 900, unlock := 900, ilock := 900, iunlock := 900, lockSlow := 900, unlockSlow := 900, disable := 13, enable := 16, acquire := 17, relMerge := 18, cas32 := 900, add32 := 20, tMutex := 40, tIMutex := 38, tPMutex := 52, tPIMutex := 900, tPI32 := 59, tUP := 51, tNoCopy := 35, tU32 := 36, rlock := 10, runlock := 11, wlock := 900, wunlock := 900, i32add := 14, raceRead := 12, release := 900, rUnlockSlow := 19, semacqR := 15, semacqW := 900, semrel := 22, sfatal := 21, tRW := 45, tPRW := 49, tAI32 := 43, tPAI32 := 57, tPU32 := 55, tANoCopy := 41 }
theorem rwCore : Go.Conc.Locks.RwCore Try.prog rwLink :=
  ⟨Try.func14, Try.func12, Try.func13, Try.func16, Try.func17, Try.func18, Try.func20, Try.underlying45, Try.runUnderlying45, Try.sizeOf45, Try.isAgg45, Try.zeroValue45, Try.underlying43, Try.runUnderlying43, Try.sizeOf43, Try.isAgg43, Try.zeroValue43, Try.underlying49, Try.runUnderlying49, Try.sizeOf49, Try.isAgg49, Try.zeroValue49, Try.underlying57, Try.runUnderlying57, Try.sizeOf57, Try.isAgg57, Try.zeroValue57, Try.underlying55, Try.runUnderlying55, Try.sizeOf55, Try.isAgg55, Try.zeroValue55, Try.underlying41, Try.runUnderlying41, Try.sizeOf41, Try.isAgg41, Try.zeroValue41, Try.underlying36, Try.runUnderlying36, Try.sizeOf36, Try.isAgg36, Try.zeroValue36, Try.underlying40, Try.runUnderlying40, Try.sizeOf40, Try.isAgg40, Try.zeroValue40, Try.underlying52, Try.runUnderlying52, Try.sizeOf52, Try.isAgg52, Try.zeroValue52, Try.underlying59, Try.runUnderlying59, Try.sizeOf59, Try.isAgg59, Try.zeroValue59, Try.underlying51, Try.runUnderlying51, Try.sizeOf51, Try.isAgg51, Try.zeroValue51, Try.underlying21, Try.runUnderlying21, Try.sizeOf21, Try.isAgg21, Try.zeroValue21, (by kernel_rfl), (by kernel_rfl)⟩
theorem rwRLib : Go.Conc.Locks.RwRLib Try.prog rwLink := ⟨rwCore, Try.func10, Try.func11⟩
end Go.Proofs.Qxb6632669a
