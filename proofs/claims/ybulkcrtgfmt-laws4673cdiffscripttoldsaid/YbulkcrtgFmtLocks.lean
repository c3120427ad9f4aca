/-
  The numbers under which this program holds the library's lock, and that it holds it.
-/
import Derived.Test.YbulkcrtgFmtProg
import Derived.Conc.MuLib
import Derived.KernelRfl
namespace Go.Proofs
abbrev Ybaf.muLink : Go.Conc.Locks.MuLink := { lock := 26, unlock := 27, ilock := 36, iunlock := 37, lockSlow := 54, unlockSlow := 57, disable := 50, enable := 52, acquire := 53, relMerge := 55, cas32 := 51, add32 := 56, tMutex := 69, tIMutex := 67, tPMutex := 84, tPIMutex := 97, tPI32 := 99, tUP := 101, tNoCopy := 65, tU32 := 35 }
theorem Ybaf.muLib : Go.Conc.Locks.MuLib Ybaf.prog Ybaf.muLink :=
  ⟨Ybaf.func26, Ybaf.func27, Ybaf.func36, Ybaf.func37, Ybaf.func50, Ybaf.func52, Ybaf.func53, Ybaf.func55, Ybaf.func51, Ybaf.func56, Ybaf.underlying67, Ybaf.runUnderlying67, Ybaf.sizeOf67, Ybaf.isAgg67, Ybaf.zeroValue67, Ybaf.underlying69, Ybaf.runUnderlying69, Ybaf.sizeOf69, Ybaf.isAgg69, Ybaf.zeroValue69, Ybaf.underlying84, Ybaf.runUnderlying84, Ybaf.sizeOf84, Ybaf.isAgg84, Ybaf.zeroValue84, Ybaf.underlying97, Ybaf.runUnderlying97, Ybaf.sizeOf97, Ybaf.isAgg97, Ybaf.zeroValue97, Ybaf.underlying99, Ybaf.runUnderlying99, Ybaf.sizeOf99, Ybaf.isAgg99, Ybaf.zeroValue99, Ybaf.underlying101, Ybaf.runUnderlying101, Ybaf.sizeOf101, Ybaf.isAgg101, Ybaf.zeroValue101, Ybaf.underlying65, Ybaf.runUnderlying65, Ybaf.sizeOf65, Ybaf.isAgg65, Ybaf.zeroValue65, Ybaf.underlying21, Ybaf.runUnderlying21, Ybaf.sizeOf21, Ybaf.isAgg21, Ybaf.zeroValue21, (by kernel_rfl)⟩
end Go.Proofs
