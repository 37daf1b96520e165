/-
  The numbers under which this dump holds sync.Mutex's functions and types, and that it holds them (after the worked LockinLocks.lean).
-/
import Derived.Test.YbulkagoyFmtProg
import Derived.Conc.RwLib
import Derived.Conc.MuData
import Derived.KernelRfl
namespace Go.Proofs.YbulkagoyFmt
abbrev Ybaf.muLink : Go.Conc.Locks.MuLink := { lock := 8, unlock := 9, ilock := 10, iunlock := 11, lockSlow := 16, unlockSlow := 19, disable := 12, enable := 14, acquire := 15, relMerge := 17, cas32 := 13, add32 := 18, tMutex := 55, tIMutex := 53, tPMutex := 88, tPIMutex := 89, tPI32 := 91, tUP := 93, tNoCopy := 50, tU32 := 51 }
theorem Ybaf.muLib : Go.Conc.Locks.MuLib Ybaf.prog Ybaf.muLink :=
  ⟨Ybaf.func8, Ybaf.func9, Ybaf.func10, Ybaf.func11, Ybaf.func12, Ybaf.func14, Ybaf.func15, Ybaf.func17, Ybaf.func13, Ybaf.func18, Ybaf.underlying53, Ybaf.runUnderlying53, Ybaf.sizeOf53, Ybaf.isAgg53, Ybaf.zeroValue53, Ybaf.underlying55, Ybaf.runUnderlying55, Ybaf.sizeOf55, Ybaf.isAgg55, Ybaf.zeroValue55, Ybaf.underlying88, Ybaf.runUnderlying88, Ybaf.sizeOf88, Ybaf.isAgg88, Ybaf.zeroValue88, Ybaf.underlying89, Ybaf.runUnderlying89, Ybaf.sizeOf89, Ybaf.isAgg89, Ybaf.zeroValue89, Ybaf.underlying91, Ybaf.runUnderlying91, Ybaf.sizeOf91, Ybaf.isAgg91, Ybaf.zeroValue91, Ybaf.underlying93, Ybaf.runUnderlying93, Ybaf.sizeOf93, Ybaf.isAgg93, Ybaf.zeroValue93, Ybaf.underlying50, Ybaf.runUnderlying50, Ybaf.sizeOf50, Ybaf.isAgg50, Ybaf.zeroValue50, Ybaf.underlying21, Ybaf.runUnderlying21, Ybaf.sizeOf21, Ybaf.isAgg21, Ybaf.zeroValue21, (by kernel_rfl)⟩
end Go.Proofs.YbulkagoyFmt
