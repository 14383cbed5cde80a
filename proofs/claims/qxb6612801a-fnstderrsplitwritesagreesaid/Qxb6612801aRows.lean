/-
  No cell of these rows narrows 'for every input' (looked for: loops, veiled, ifaces, maps, wideKeys, modest, calm, conditions, laid).
  DERIVED. THE GIVEN ROWS OF THIS SEAT. 2 by the template 'for every input the law returns true; each argument reads behind the call as it read before'; 0 by the template 'total and deterministic' (their statements: Qxb6612801aTotals.lean).
  GIVEN WITH THE SEED: the statements are not yours to turn. If you find one false, say at which input.
  Laid BY PROGRAM, IN A SANDBOX (cutbox-rows.mjs): the forced cells as the released guide's own fill.sh prints them over the translation 8e8345a7a26b5431… (all of the seat's roots in one cut). By AI agents, Wed Nov 11 2026. No macro, syntax, notation, axiom, sorry.
-/
import Derived.Test.Qxb6612801aChecked
import GoSem.Claim
import GoSem.ClaimJoined
import GoSem.ClaimMapViews
import Derived.JoinedTies
import Derived.KernelRfl
namespace Go.Proofs.Qxb6612801a
/- THE CELL 'sum', in the pinned program and in every row, IS THE sha256 OF THE DUMP (.gsa) THAT Qxb6612801aProg.lean LOADS. Nothing in Lean hashes anything: it is a label: what it is worth is what the hold of that sum in a sandbox is worth. -/
noncomputable def Try.pinned : Pinned := { name := "qxb6612801a", sum := "8e8345a7a26b5431b19278dc8331455b53f5145fb942e5388618bd551014911b", checked := Try.checked }
namespace Rows
def none {H : Type} : Left H := { results := [], args := [] }

/-- 'zzlaws_internal_process_b1.FnStderrMatchesTailModel': WHATEVER THE INPUT: true; the input reads as it did. -/
def fnStderrMatchesTailModelSpec : ChangeSpec := { name := "fnStderrMatchesTailModel", fn := fun _ => fun
  | [d] => { results := [.lit (.bool true)], args := [d] }
  | _ => none }
def fnStderrMatchesTailModelRow : OpenClaim := { program := "qxb6612801a", sum := "8e8345a7a26b5431b19278dc8331455b53f5145fb942e5388618bd551014911b", func := "example.com/muster/muster/zzlaws_internal_process_b1.FnStderrMatchesTailModel", spec := "fnStderrMatchesTailModel", inPlace := ["(*internal/sync.Mutex).Lock", "internal/race.Disable", "sync/atomic.CompareAndSwapInt32", "internal/race.Enable", "internal/race.Acquire", "(*internal/sync.Mutex).lockSlow", "internal/sync.runtime_canSpin", "internal/sync.runtime_doSpin", "internal/sync.throw", "internal/sync.runtime_nanotime", "internal/sync.runtime_SemacquireMutex", "sync/atomic.AddInt32", "(*internal/sync.Mutex).Unlock", "internal/race.ReleaseMerge", "(*internal/sync.Mutex).unlockSlow", "internal/sync.fatal", "internal/sync.runtime_Semrelease", "internal/bytealg.IndexByte"], apart := false }
def FnStderrMatchesTailModelSaid : Prop := fnStderrMatchesTailModelRow.holds Try.pinned (OpenSpec.ofChange fnStderrMatchesTailModelSpec)

/-- ITS FALSE NEIGHBOUR: 'it returns false'. Refute it at one input. -/
def fnStderrMatchesTailModelWrong : ChangeSpec := { name := "fnStderrMatchesTailModel", fn := fun _ => fun
  | [d] => { results := [.lit (.bool false)], args := [d] }
  | _ => none }
def FnStderrMatchesTailModelWrongFalsely : Prop := fnStderrMatchesTailModelRow.holds Try.pinned (OpenSpec.ofChange fnStderrMatchesTailModelWrong)

/-- 'zzlaws_internal_process_b1.FnStderrSplitWritesAgree': WHATEVER THE INPUT: true; the input reads as it did. -/
def fnStderrSplitWritesAgreeSpec : ChangeSpec := { name := "fnStderrSplitWritesAgree", fn := fun _ => fun
  | [d1, d2] => { results := [.lit (.bool true)], args := [d1, d2] }
  | _ => none }
def fnStderrSplitWritesAgreeRow : OpenClaim := { program := "qxb6612801a", sum := "8e8345a7a26b5431b19278dc8331455b53f5145fb942e5388618bd551014911b", func := "example.com/muster/muster/zzlaws_internal_process_b1.FnStderrSplitWritesAgree", spec := "fnStderrSplitWritesAgree", inPlace := ["(*internal/sync.Mutex).Lock", "internal/race.Disable", "sync/atomic.CompareAndSwapInt32", "internal/race.Enable", "internal/race.Acquire", "(*internal/sync.Mutex).lockSlow", "internal/sync.runtime_canSpin", "internal/sync.runtime_doSpin", "internal/sync.throw", "internal/sync.runtime_nanotime", "internal/sync.runtime_SemacquireMutex", "sync/atomic.AddInt32", "(*internal/sync.Mutex).Unlock", "internal/race.ReleaseMerge", "(*internal/sync.Mutex).unlockSlow", "internal/sync.fatal", "internal/sync.runtime_Semrelease", "internal/bytealg.IndexByte"], apart := false }
def FnStderrSplitWritesAgreeSaid : Prop := fnStderrSplitWritesAgreeRow.holds Try.pinned (OpenSpec.ofChange fnStderrSplitWritesAgreeSpec)

/-- ITS FALSE NEIGHBOUR: 'it returns false'. Refute it at one input. -/
def fnStderrSplitWritesAgreeWrong : ChangeSpec := { name := "fnStderrSplitWritesAgree", fn := fun _ => fun
  | [d1, d2] => { results := [.lit (.bool false)], args := [d1, d2] }
  | _ => none }
def FnStderrSplitWritesAgreeWrongFalsely : Prop := fnStderrSplitWritesAgreeRow.holds Try.pinned (OpenSpec.ofChange fnStderrSplitWritesAgreeWrong)

end Rows
end Go.Proofs.Qxb6612801a
