/- The numbers under which this dump holds sync.Mutex's functions and types, and that it holds them (Derived/Conc/MuLib.lean). -/
import Derived.Test.Qxb6613399aProg
import Derived.Conc.MuLib
import Derived.KernelRfl
namespace Go.Proofs
abbrev Try.muLink : Go.Conc.Locks.MuLink := { lock := 28, unlock := 29, ilock := 31, iunlock := 32, lockSlow := 37, unlockSlow := 40, disable := 33, enable := 35, acquire := 36, relMerge := 38, cas32 := 34, add32 := 39, tMutex := 61, tIMutex := 59, tPMutex := 101, tPIMutex := 105, tPI32 := 107, tUP := 109, tNoCopy := 56, tU32 := 57 }
theorem Try.muLib : Go.Conc.Locks.MuLib Try.prog Try.muLink :=
  ⟨Try.func28, Try.func29, Try.func31, Try.func32, Try.func33, Try.func35, Try.func36, Try.func38, Try.func34, Try.func39, Try.underlying59, Try.runUnderlying59, Try.sizeOf59, Try.isAgg59, Try.zeroValue59, Try.underlying61, Try.runUnderlying61, Try.sizeOf61, Try.isAgg61, Try.zeroValue61, Try.underlying101, Try.runUnderlying101, Try.sizeOf101, Try.isAgg101, Try.zeroValue101, Try.underlying105, Try.runUnderlying105, Try.sizeOf105, Try.isAgg105, Try.zeroValue105, Try.underlying107, Try.runUnderlying107, Try.sizeOf107, Try.isAgg107, Try.zeroValue107, Try.underlying109, Try.runUnderlying109, Try.sizeOf109, Try.isAgg109, Try.zeroValue109, Try.underlying56, Try.runUnderlying56, Try.sizeOf56, Try.isAgg56, Try.zeroValue56, Try.underlying21, Try.runUnderlying21, Try.sizeOf21, Try.isAgg21, Try.zeroValue21, (by kernel_rfl)⟩
end Go.Proofs
