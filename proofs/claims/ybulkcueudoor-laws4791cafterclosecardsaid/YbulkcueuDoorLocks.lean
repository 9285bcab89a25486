/-
  The numbers under which this dump holds sync.Mutex's functions and types, and that it holds them (after the worked StatsLocks.lean; the kernel checks every number).
-/
import Derived.Test.YbulkcueuDoorProg
import Derived.Conc.MuLib
import Derived.KernelRfl
namespace Go.Proofs
abbrev Ybad.muLink : Go.Conc.Locks.MuLink := { lock := 20, unlock := 15, ilock := 30, iunlock := 29, lockSlow := 44, unlockSlow := 43, disable := 37, enable := 38, acquire := 40, relMerge := 41, cas32 := 39, add32 := 42, tMutex := 49, tIMutex := 47, tPMutex := 93, tPIMutex := 111, tPI32 := 113, tUP := 79, tNoCopy := 45, tU32 := 35 }
theorem Ybad.muLib : Go.Conc.Locks.MuLib Ybad.prog Ybad.muLink :=
  ⟨Ybad.func20, Ybad.func15, Ybad.func30, Ybad.func29, Ybad.func37, Ybad.func38, Ybad.func40, Ybad.func41, Ybad.func39, Ybad.func42, Ybad.underlying47, Ybad.runUnderlying47, Ybad.sizeOf47, Ybad.isAgg47, Ybad.zeroValue47, Ybad.underlying49, Ybad.runUnderlying49, Ybad.sizeOf49, Ybad.isAgg49, Ybad.zeroValue49, Ybad.underlying93, Ybad.runUnderlying93, Ybad.sizeOf93, Ybad.isAgg93, Ybad.zeroValue93, Ybad.underlying111, Ybad.runUnderlying111, Ybad.sizeOf111, Ybad.isAgg111, Ybad.zeroValue111, Ybad.underlying113, Ybad.runUnderlying113, Ybad.sizeOf113, Ybad.isAgg113, Ybad.zeroValue113, Ybad.underlying79, Ybad.runUnderlying79, Ybad.sizeOf79, Ybad.isAgg79, Ybad.zeroValue79, Ybad.underlying45, Ybad.runUnderlying45, Ybad.sizeOf45, Ybad.isAgg45, Ybad.zeroValue45, Ybad.underlying21, Ybad.runUnderlying21, Ybad.sizeOf21, Ybad.isAgg21, Ybad.zeroValue21, (by kernel_rfl)⟩
end Go.Proofs
