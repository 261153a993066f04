/-
  The numbers under which this dump holds the library's sync.Mutex (after the guide's own text for such a link), and that it holds it.
-/
import Derived.Test.YbulkbseuGreatRows
import Derived.Conc.RwLib
import Derived.Conc.MuData
import Derived.KernelRfl
namespace Go.Proofs.YbulkbseuGreat
abbrev muLink : Go.Conc.Locks.MuLink := { lock := 13, unlock := 14, ilock := 16, iunlock := 17, lockSlow := 23, unlockSlow := 26, disable := 19, enable := 21, acquire := 22, relMerge := 24, cas32 := 20, add32 := 25, tMutex := 44, tIMutex := 42, tPMutex := 121, tPIMutex := 123, tPI32 := 125, tUP := 57, tNoCopy := 39, tU32 := 40 }
theorem muLib : Go.Conc.Locks.MuLib Ybaz.prog muLink :=
  ⟨Ybaz.func13, Ybaz.func14, Ybaz.func16, Ybaz.func17, Ybaz.func19, Ybaz.func21, Ybaz.func22, Ybaz.func24, Ybaz.func20, Ybaz.func25, Ybaz.underlying42, Ybaz.runUnderlying42, Ybaz.sizeOf42, Ybaz.isAgg42, Ybaz.zeroValue42, Ybaz.underlying44, Ybaz.runUnderlying44, Ybaz.sizeOf44, Ybaz.isAgg44, Ybaz.zeroValue44, Ybaz.underlying121, Ybaz.runUnderlying121, Ybaz.sizeOf121, Ybaz.isAgg121, Ybaz.zeroValue121, Ybaz.underlying123, Ybaz.runUnderlying123, Ybaz.sizeOf123, Ybaz.isAgg123, Ybaz.zeroValue123, Ybaz.underlying125, Ybaz.runUnderlying125, Ybaz.sizeOf125, Ybaz.isAgg125, Ybaz.zeroValue125, Ybaz.underlying57, Ybaz.runUnderlying57, Ybaz.sizeOf57, Ybaz.isAgg57, Ybaz.zeroValue57, Ybaz.underlying39, Ybaz.runUnderlying39, Ybaz.sizeOf39, Ybaz.isAgg39, Ybaz.zeroValue39, Ybaz.underlying21, Ybaz.runUnderlying21, Ybaz.sizeOf21, Ybaz.isAgg21, Ybaz.zeroValue21, (by kernel_rfl)⟩
end Go.Proofs.YbulkbseuGreat
