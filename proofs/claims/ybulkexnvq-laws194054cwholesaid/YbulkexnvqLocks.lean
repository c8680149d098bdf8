/-
  The numbers under which this dump holds sync.Mutex's functions and types, and that it holds them.
-/
import Derived.Test.YbulkexnvqRows
import Derived.Conc.MuLone
import Derived.KernelRfl
namespace Go.Proofs.Ybulkexnvq
abbrev Yba.muLink : Go.Conc.Locks.MuLink := { lock := 8, unlock := 9, ilock := 13, iunlock := 14, lockSlow := 30, unlockSlow := 33, disable := 26, enable := 28, acquire := 29, relMerge := 31, cas32 := 27, add32 := 32, tMutex := 51, tIMutex := 49, tPMutex := 73, tPIMutex := 85, tPI32 := 87, tUP := 89, tNoCopy := 46, tU32 := 47 }
theorem Yba.muLib : Go.Conc.Locks.MuLib Yba.prog Yba.muLink :=
  ⟨Yba.func8, Yba.func9, Yba.func13, Yba.func14, Yba.func26, Yba.func28, Yba.func29, Yba.func31, Yba.func27, Yba.func32, Yba.underlying49, Yba.runUnderlying49, Yba.sizeOf49, Yba.isAgg49, Yba.zeroValue49, Yba.underlying51, Yba.runUnderlying51, Yba.sizeOf51, Yba.isAgg51, Yba.zeroValue51, Yba.underlying73, Yba.runUnderlying73, Yba.sizeOf73, Yba.isAgg73, Yba.zeroValue73, Yba.underlying85, Yba.runUnderlying85, Yba.sizeOf85, Yba.isAgg85, Yba.zeroValue85, Yba.underlying87, Yba.runUnderlying87, Yba.sizeOf87, Yba.isAgg87, Yba.zeroValue87, Yba.underlying89, Yba.runUnderlying89, Yba.sizeOf89, Yba.isAgg89, Yba.zeroValue89, Yba.underlying46, Yba.runUnderlying46, Yba.sizeOf46, Yba.isAgg46, Yba.zeroValue46, Yba.underlying21, Yba.runUnderlying21, Yba.sizeOf21, Yba.isAgg21, Yba.zeroValue21, (by kernel_rfl)⟩
end Go.Proofs.Ybulkexnvq
