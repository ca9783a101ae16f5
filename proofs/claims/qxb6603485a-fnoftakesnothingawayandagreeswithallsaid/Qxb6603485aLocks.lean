/-
  Own work. The numbers under which this program holds the library's locks, and that it holds them (HOWTO 6u), typed by hand.
-/
import Derived.Test.Qxb6603485aProg
import Derived.Conc.RwLib
import Derived.Conc.MuData
import Derived.KernelRfl
namespace Go.Proofs
abbrev Try.muLink : Go.Conc.Locks.MuLink := { lock := 22, unlock := 23, ilock := 25, iunlock := 26, lockSlow := 32, unlockSlow := 35, disable := 28, enable := 30, acquire := 31, relMerge := 33, cas32 := 29, add32 := 34, tMutex := 67, tIMutex := 65, tPMutex := 81, tPIMutex := 83, tPI32 := 85, tUP := 87, tNoCopy := 62, tU32 := 63 }
theorem Try.muLib : Go.Conc.Locks.MuLib Try.prog Try.muLink :=
  ⟨Try.func22, Try.func23, Try.func25, Try.func26, Try.func28, Try.func30, Try.func31, Try.func33, Try.func29, Try.func34, Try.underlying65, Try.runUnderlying65, Try.sizeOf65, Try.isAgg65, Try.zeroValue65, Try.underlying67, Try.runUnderlying67, Try.sizeOf67, Try.isAgg67, Try.zeroValue67, Try.underlying81, Try.runUnderlying81, Try.sizeOf81, Try.isAgg81, Try.zeroValue81, Try.underlying83, Try.runUnderlying83, Try.sizeOf83, Try.isAgg83, Try.zeroValue83, Try.underlying85, Try.runUnderlying85, Try.sizeOf85, Try.isAgg85, Try.zeroValue85, Try.underlying87, Try.runUnderlying87, Try.sizeOf87, Try.isAgg87, Try.zeroValue87, Try.underlying62, Try.runUnderlying62, Try.sizeOf62, Try.isAgg62, Try.zeroValue62, Try.underlying21, Try.runUnderlying21, Try.sizeOf21, Try.isAgg21, Try.zeroValue21, (by kernel_rfl)⟩
end Go.Proofs
