/-
  The numbers under which this dump holds sync.Mutex's functions and types, and that it holds them (after the guide's 6u; checked by the kernel as it is compiled).
-/
import Derived.Test.Qxb6613559aProg
import Derived.Conc.MuLone
import Derived.KernelRfl
namespace Go.Proofs.Qxb6613559a
abbrev muLink : Go.Conc.Locks.MuLink := { lock := 18, unlock := 19, ilock := 21, iunlock := 22, lockSlow := 28, unlockSlow := 31, disable := 24, enable := 26, acquire := 27, relMerge := 29, cas32 := 25, add32 := 30, tMutex := 47, tIMutex := 45, tPMutex := 56, tPIMutex := 57, tPI32 := 59, tUP := 61, tNoCopy := 42, tU32 := 43 }
theorem muLib : Go.Conc.Locks.MuLib Try.prog muLink :=
  ⟨Try.func18, Try.func19, Try.func21, Try.func22, Try.func24, Try.func26, Try.func27, Try.func29, Try.func25, Try.func30, Try.underlying45, Try.runUnderlying45, Try.sizeOf45, Try.isAgg45, Try.zeroValue45, Try.underlying47, Try.runUnderlying47, Try.sizeOf47, Try.isAgg47, Try.zeroValue47, Try.underlying56, Try.runUnderlying56, Try.sizeOf56, Try.isAgg56, Try.zeroValue56, Try.underlying57, Try.runUnderlying57, Try.sizeOf57, Try.isAgg57, Try.zeroValue57, Try.underlying59, Try.runUnderlying59, Try.sizeOf59, Try.isAgg59, Try.zeroValue59, Try.underlying61, Try.runUnderlying61, Try.sizeOf61, Try.isAgg61, Try.zeroValue61, Try.underlying42, Try.runUnderlying42, Try.sizeOf42, Try.isAgg42, Try.zeroValue42, Try.underlying21, Try.runUnderlying21, Try.sizeOf21, Try.isAgg21, Try.zeroValue21, (by kernel_rfl)⟩
end Go.Proofs.Qxb6613559a
