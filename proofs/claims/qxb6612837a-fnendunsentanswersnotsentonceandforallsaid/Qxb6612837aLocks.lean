import Derived.Test.Qxb6612837aProg
import Derived.Conc.RwLib
import Derived.KernelRfl
namespace Go.Proofs
abbrev Try.muLink : Go.Conc.Locks.MuLink := { lock := 36, unlock := 37, ilock := 39, iunlock := 40, lockSlow := 45, unlockSlow := 48, disable := 41, enable := 43, acquire := 44, relMerge := 46, cas32 := 42, add32 := 47, tMutex := 76, tIMutex := 74, tPMutex := 99, tPIMutex := 103, tPI32 := 105, tUP := 107, tNoCopy := 71, tU32 := 72 }
theorem Try.muLib : Go.Conc.Locks.MuLib Try.prog Try.muLink :=
  ⟨Try.func36, Try.func37, Try.func39, Try.func40, Try.func41, Try.func43, Try.func44, Try.func46, Try.func42, Try.func47, Try.underlying74, Try.runUnderlying74, Try.sizeOf74, Try.isAgg74, Try.zeroValue74, Try.underlying76, Try.runUnderlying76, Try.sizeOf76, Try.isAgg76, Try.zeroValue76, Try.underlying99, Try.runUnderlying99, Try.sizeOf99, Try.isAgg99, Try.zeroValue99, Try.underlying103, Try.runUnderlying103, Try.sizeOf103, Try.isAgg103, Try.zeroValue103, Try.underlying105, Try.runUnderlying105, Try.sizeOf105, Try.isAgg105, Try.zeroValue105, Try.underlying107, Try.runUnderlying107, Try.sizeOf107, Try.isAgg107, Try.zeroValue107, Try.underlying71, Try.runUnderlying71, Try.sizeOf71, Try.isAgg71, Try.zeroValue71, Try.underlying21, Try.runUnderlying21, Try.sizeOf21, Try.isAgg21, Try.zeroValue21, (by kernel_rfl)⟩
end Go.Proofs
