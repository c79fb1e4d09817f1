/-
  THE NUMBERS under which this dump holds sync.Mutex's functions and types, and that it holds them.
-/
import Derived.Test.YbulkydgDoorProg
import Derived.Conc.MuLib
import Derived.KernelRfl
namespace Go.Proofs
abbrev Ybad.muLink : Go.Conc.Locks.MuLink := { lock := 14, unlock := 15, ilock := 20, iunlock := 21, lockSlow := 27, unlockSlow := 30, disable := 23, enable := 25, acquire := 26, relMerge := 28, cas32 := 24, add32 := 29, tMutex := 31, tIMutex := 29, tPMutex := 47, tPIMutex := 85, tPI32 := 87, tUP := 39, tNoCopy := 26, tU32 := 27 }
theorem Ybad.muLib : Go.Conc.Locks.MuLib Ybad.prog Ybad.muLink :=
  ⟨Ybad.func14, Ybad.func15, Ybad.func20, Ybad.func21, Ybad.func23, Ybad.func25, Ybad.func26, Ybad.func28, Ybad.func24, Ybad.func29, Ybad.underlying29, Ybad.runUnderlying29, Ybad.sizeOf29, Ybad.isAgg29, Ybad.zeroValue29, Ybad.underlying31, Ybad.runUnderlying31, Ybad.sizeOf31, Ybad.isAgg31, Ybad.zeroValue31, Ybad.underlying47, Ybad.runUnderlying47, Ybad.sizeOf47, Ybad.isAgg47, Ybad.zeroValue47, Ybad.underlying85, Ybad.runUnderlying85, Ybad.sizeOf85, Ybad.isAgg85, Ybad.zeroValue85, Ybad.underlying87, Ybad.runUnderlying87, Ybad.sizeOf87, Ybad.isAgg87, Ybad.zeroValue87, Ybad.underlying39, Ybad.runUnderlying39, Ybad.sizeOf39, Ybad.isAgg39, Ybad.zeroValue39, Ybad.underlying26, Ybad.runUnderlying26, Ybad.sizeOf26, Ybad.isAgg26, Ybad.zeroValue26, Ybad.underlying21, Ybad.runUnderlying21, Ybad.sizeOf21, Ybad.isAgg21, Ybad.zeroValue21, (by kernel_rfl)⟩
end Go.Proofs
