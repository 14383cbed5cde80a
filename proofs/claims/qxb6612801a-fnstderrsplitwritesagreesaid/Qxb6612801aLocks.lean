/-
  The numbers under which this dump holds sync.Mutex's functions and types, and that it holds them (Derived/Conc/MuLib.lean); checked by the kernel as it is compiled. By an AI agent.
-/
import Derived.Test.Qxb6612801aProg
import Derived.Conc.RwLib
import Derived.Conc.MuData
import Derived.KernelRfl
namespace Go.Proofs.Qxb6612801a
abbrev muLink : Go.Conc.Locks.MuLink := { lock := 14, unlock := 15, ilock := 18, iunlock := 19, lockSlow := 26, unlockSlow := 29, disable := 22, enable := 24, acquire := 25, relMerge := 27, cas32 := 23, add32 := 28, tMutex := 41, tIMutex := 39, tPMutex := 56, tPIMutex := 57, tPI32 := 59, tUP := 61, tNoCopy := 36, tU32 := 37 }
theorem muLib : Go.Conc.Locks.MuLib Try.prog muLink :=
  ⟨Try.func14, Try.func15, Try.func18, Try.func19, Try.func22, Try.func24, Try.func25, Try.func27, Try.func23, Try.func28, Try.underlying39, Try.runUnderlying39, Try.sizeOf39, Try.isAgg39, Try.zeroValue39, Try.underlying41, Try.runUnderlying41, Try.sizeOf41, Try.isAgg41, Try.zeroValue41, Try.underlying56, Try.runUnderlying56, Try.sizeOf56, Try.isAgg56, Try.zeroValue56, Try.underlying57, Try.runUnderlying57, Try.sizeOf57, Try.isAgg57, Try.zeroValue57, Try.underlying59, Try.runUnderlying59, Try.sizeOf59, Try.isAgg59, Try.zeroValue59, Try.underlying61, Try.runUnderlying61, Try.sizeOf61, Try.isAgg61, Try.zeroValue61, Try.underlying36, Try.runUnderlying36, Try.sizeOf36, Try.isAgg36, Try.zeroValue36, Try.underlying21, Try.runUnderlying21, Try.sizeOf21, Try.isAgg21, Try.zeroValue21, (by kernel_rfl)⟩
end Go.Proofs.Qxb6612801a
