import Derived.Test.YbulkbmfeRows
import Derived.Conc.RwLib
import Derived.Conc.RwLone
import Derived.KernelRfl
namespace Go.Proofs.Ybulkbmfe

/-- The numbers under which this dump holds the reader's side of sync.RWMutex. -/
abbrev Yba.rwLink : Go.Conc.Locks.RwLink := { lock := 37, unlock := 0, ilock := 0, iunlock := 0, lockSlow := 0, unlockSlow := 0, disable := 10, enable := 13, acquire := 14, relMerge := 15, cas32 := 0, add32 := 17, tMutex := 46, tIMutex := 44, tPMutex := 68, tPIMutex := 0, tPI32 := 75, tUP := 67, tNoCopy := 41, tU32 := 42, rlock := 6, runlock := 7, wlock := 36, wunlock := 0, i32add := 11, raceRead := 9, release := 0, rUnlockSlow := 16, semacqR := 12, semacqW := 0, semrel := 19, sfatal := 18, tRW := 51, tPRW := 65, tAI32 := 49, tPAI32 := 73, tPU32 := 71, tANoCopy := 47 }
theorem Yba.rwCore : Go.Conc.Locks.RwCore Yba.prog Yba.rwLink :=
  ⟨Yba.func11, Yba.func9, Yba.func10, Yba.func13, Yba.func14, Yba.func15, Yba.func17, Yba.underlying51, Yba.runUnderlying51, Yba.sizeOf51, Yba.isAgg51, Yba.zeroValue51, Yba.underlying49, Yba.runUnderlying49, Yba.sizeOf49, Yba.isAgg49, Yba.zeroValue49, Yba.underlying65, Yba.runUnderlying65, Yba.sizeOf65, Yba.isAgg65, Yba.zeroValue65, Yba.underlying73, Yba.runUnderlying73, Yba.sizeOf73, Yba.isAgg73, Yba.zeroValue73, Yba.underlying71, Yba.runUnderlying71, Yba.sizeOf71, Yba.isAgg71, Yba.zeroValue71, Yba.underlying47, Yba.runUnderlying47, Yba.sizeOf47, Yba.isAgg47, Yba.zeroValue47, Yba.underlying42, Yba.runUnderlying42, Yba.sizeOf42, Yba.isAgg42, Yba.zeroValue42, Yba.underlying46, Yba.runUnderlying46, Yba.sizeOf46, Yba.isAgg46, Yba.zeroValue46, Yba.underlying68, Yba.runUnderlying68, Yba.sizeOf68, Yba.isAgg68, Yba.zeroValue68, Yba.underlying75, Yba.runUnderlying75, Yba.sizeOf75, Yba.isAgg75, Yba.zeroValue75, Yba.underlying67, Yba.runUnderlying67, Yba.sizeOf67, Yba.isAgg67, Yba.zeroValue67, Yba.underlying21, Yba.runUnderlying21, Yba.sizeOf21, Yba.isAgg21, Yba.zeroValue21, (by kernel_rfl), (by kernel_rfl)⟩
theorem Yba.rwRLib : Go.Conc.Locks.RwRLib Yba.prog Yba.rwLink := ⟨Yba.rwCore, Yba.func6, Yba.func7⟩

end Go.Proofs.Ybulkbmfe
