/-
  The numbers under which this dump holds the library's lock's functions and types, and that it holds them (checked by the kernel as it is compiled). Typed by hand after the guide's worked text.
-/
import Derived.Test.YbulkbxpiFmtProg
import Derived.Conc.MuLib
import Derived.Conc.MuData
import Derived.KernelRfl
namespace Go.Proofs
abbrev Ybaf.muLink : Go.Conc.Locks.MuLink := { lock := 17, unlock := 18, ilock := 37, iunlock := 38, lockSlow := 58, unlockSlow := 61, disable := 54, enable := 56, acquire := 57, relMerge := 59, cas32 := 55, add32 := 60, tMutex := 47, tIMutex := 45, tPMutex := 120, tPIMutex := 140, tPI32 := 142, tUP := 144, tNoCopy := 42, tU32 := 43 }
theorem Ybaf.muLib : Go.Conc.Locks.MuLib Ybaf.prog Ybaf.muLink :=
  ⟨Ybaf.func17, Ybaf.func18, Ybaf.func37, Ybaf.func38, Ybaf.func54, Ybaf.func56, Ybaf.func57, Ybaf.func59, Ybaf.func55, Ybaf.func60, Ybaf.underlying45, Ybaf.runUnderlying45, Ybaf.sizeOf45, Ybaf.isAgg45, Ybaf.zeroValue45, Ybaf.underlying47, Ybaf.runUnderlying47, Ybaf.sizeOf47, Ybaf.isAgg47, Ybaf.zeroValue47, Ybaf.underlying120, Ybaf.runUnderlying120, Ybaf.sizeOf120, Ybaf.isAgg120, Ybaf.zeroValue120, Ybaf.underlying140, Ybaf.runUnderlying140, Ybaf.sizeOf140, Ybaf.isAgg140, Ybaf.zeroValue140, Ybaf.underlying142, Ybaf.runUnderlying142, Ybaf.sizeOf142, Ybaf.isAgg142, Ybaf.zeroValue142, Ybaf.underlying144, Ybaf.runUnderlying144, Ybaf.sizeOf144, Ybaf.isAgg144, Ybaf.zeroValue144, Ybaf.underlying42, Ybaf.runUnderlying42, Ybaf.sizeOf42, Ybaf.isAgg42, Ybaf.zeroValue42, Ybaf.underlying21, Ybaf.runUnderlying21, Ybaf.sizeOf21, Ybaf.isAgg21, Ybaf.zeroValue21, (by kernel_rfl)⟩
end Go.Proofs
