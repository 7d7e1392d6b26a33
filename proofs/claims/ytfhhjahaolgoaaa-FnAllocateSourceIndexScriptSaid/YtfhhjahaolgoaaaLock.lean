/-
  The numbers under which this seat holds sync.Mutex's functions and types, and that it holds them.
-/
import Derived.Test.YtfhhjahaolgoaaaProg
import Derived.Conc.MuLib
import Derived.KernelRfl
namespace Go.Proofs
abbrev Try.muLink : Go.Conc.Locks.MuLink := { lock := 11, unlock := 12, ilock := 13, iunlock := 14, lockSlow := 19, unlockSlow := 22, disable := 15, enable := 17, acquire := 18, relMerge := 20, cas32 := 16, add32 := 21, tMutex := 117, tIMutex := 115, tPMutex := 138, tPIMutex := 139, tPI32 := 141, tUP := 143, tNoCopy := 113, tU32 := 26 }
theorem Try.muLib : Go.Conc.Locks.MuLib Try.prog Try.muLink :=
  ⟨Try.func11, Try.func12, Try.func13, Try.func14, Try.func15, Try.func17, Try.func18, Try.func20, Try.func16, Try.func21, Try.underlying115, Try.runUnderlying115, Try.sizeOf115, Try.isAgg115, Try.zeroValue115, Try.underlying117, Try.runUnderlying117, Try.sizeOf117, Try.isAgg117, Try.zeroValue117, Try.underlying138, Try.runUnderlying138, Try.sizeOf138, Try.isAgg138, Try.zeroValue138, Try.underlying139, Try.runUnderlying139, Try.sizeOf139, Try.isAgg139, Try.zeroValue139, Try.underlying141, Try.runUnderlying141, Try.sizeOf141, Try.isAgg141, Try.zeroValue141, Try.underlying143, Try.runUnderlying143, Try.sizeOf143, Try.isAgg143, Try.zeroValue143, Try.underlying113, Try.runUnderlying113, Try.sizeOf113, Try.isAgg113, Try.zeroValue113, Try.underlying21, Try.runUnderlying21, Try.sizeOf21, Try.isAgg21, Try.zeroValue21, (by kernel_rfl)⟩
end Go.Proofs
