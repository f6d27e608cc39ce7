/-
  The numbers under which this dump holds sync.RWMutex's reader's side, and that it holds it.
-/
import Derived.Test.YbulkcjhoProg
import Derived.Conc.RwLib
import Derived.KernelRfl
namespace Go.Proofs
abbrev Yba.rwLink : Go.Conc.Locks.RwLink := { lock := 66, unlock := 16, ilock := 68, iunlock := 27, lockSlow := 0, unlockSlow := 29, disable := 12, enable := 14, acquire := 17, relMerge := 19, cas32 := 26, add32 := 28, tMutex := 29, tIMutex := 27, tPMutex := 126, tPIMutex := 137, tPI32 := 135, tUP := 125, tNoCopy := 24, tU32 := 25, rlock := 9, runlock := 10, wlock := 65, wunlock := 8, i32add := 20, raceRead := 11, release := 18, rUnlockSlow := 24, semacqR := 23, semacqW := 0, semrel := 22, sfatal := 21, tRW := 34, tPRW := 123, tAI32 := 32, tPAI32 := 133, tPU32 := 128, tANoCopy := 30 }
theorem Yba.rwCore : Go.Conc.Locks.RwCore Yba.prog Yba.rwLink :=
  ⟨Yba.func20, Yba.func11, Yba.func12, Yba.func14, Yba.func17, Yba.func19, Yba.func28, Yba.underlying34, Yba.runUnderlying34, Yba.sizeOf34, Yba.isAgg34, Yba.zeroValue34, Yba.underlying32, Yba.runUnderlying32, Yba.sizeOf32, Yba.isAgg32, Yba.zeroValue32, Yba.underlying123, Yba.runUnderlying123, Yba.sizeOf123, Yba.isAgg123, Yba.zeroValue123, Yba.underlying133, Yba.runUnderlying133, Yba.sizeOf133, Yba.isAgg133, Yba.zeroValue133, Yba.underlying128, Yba.runUnderlying128, Yba.sizeOf128, Yba.isAgg128, Yba.zeroValue128, Yba.underlying30, Yba.runUnderlying30, Yba.sizeOf30, Yba.isAgg30, Yba.zeroValue30, Yba.underlying25, Yba.runUnderlying25, Yba.sizeOf25, Yba.isAgg25, Yba.zeroValue25, Yba.underlying29, Yba.runUnderlying29, Yba.sizeOf29, Yba.isAgg29, Yba.zeroValue29, Yba.underlying126, Yba.runUnderlying126, Yba.sizeOf126, Yba.isAgg126, Yba.zeroValue126, Yba.underlying135, Yba.runUnderlying135, Yba.sizeOf135, Yba.isAgg135, Yba.zeroValue135, Yba.underlying125, Yba.runUnderlying125, Yba.sizeOf125, Yba.isAgg125, Yba.zeroValue125, Yba.underlying21, Yba.runUnderlying21, Yba.sizeOf21, Yba.isAgg21, Yba.zeroValue21, (by kernel_rfl), (by kernel_rfl)⟩
theorem Yba.rwRLib : Go.Conc.Locks.RwRLib Yba.prog Yba.rwLink := ⟨Yba.rwCore, Yba.func9, Yba.func10⟩
end Go.Proofs
