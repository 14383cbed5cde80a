/-
  No cell of these rows narrows 'for every input' (looked for: loops, veiled, ifaces, maps, wideKeys, modest, calm, conditions, laid).
  DERIVED. THE GIVEN ROWS OF THIS SEAT. 4 by the template 'for every input the law returns true; each argument reads behind the call as it read before'; 0 by the template 'total and deterministic' (their statements: Qxb6609016aTotals.lean).
  GIVEN WITH THE SEED: the statements are not yours to turn. If you find one false, say at which input.
  Laid BY PROGRAM, IN A SANDBOX (cutbox-rows.mjs): the forced cells as the released guide's own fill.sh prints them over the translation 2ecb8e0a75e1708a… (all of the seat's roots in one cut). By AI agents, Wed Nov 11 2026. No macro, syntax, notation, axiom, sorry.
-/
import Derived.Test.Qxb6609016aChecked
import GoSem.Claim
import GoSem.ClaimJoined
import GoSem.ClaimMapViews
import Derived.JoinedTies
import Derived.KernelRfl
namespace Go.Proofs.Qxb6609016a
/- THE CELL 'sum', in the pinned program and in every row, IS THE sha256 OF THE DUMP (.gsa) THAT Qxb6609016aProg.lean LOADS. Nothing in Lean hashes anything: it is a label: what it is worth is what the hold of that sum in a sandbox is worth. -/
noncomputable def Try.pinned : Pinned := { name := "qxb6609016a", sum := "2ecb8e0a75e1708af297513bccf39cd09a50e4174067aaecdf827d054c1fb7b5", checked := Try.checked }
namespace Rows
def none {H : Type} : Left H := { results := [], args := [] }

/-- 'zzlaws_internal_paxos_b1.FnLacksInsertOne': WHATEVER THE INPUT: true; the input reads as it did. -/
def fnLacksInsertOneSpec : ChangeSpec := { name := "fnLacksInsertOne", fn := fun _ => fun
  | [d1, d2, d3, d4] => { results := [.lit (.bool true)], args := [d1, d2, d3, d4] }
  | _ => none }
def fnLacksInsertOneRow : OpenClaim := { program := "qxb6609016a", sum := "2ecb8e0a75e1708af297513bccf39cd09a50e4174067aaecdf827d054c1fb7b5", func := "example.com/synodic/synodic/zzlaws_internal_paxos_b1.FnLacksInsertOne", spec := "fnLacksInsertOne", apart := false }
def FnLacksInsertOneSaid : Prop := fnLacksInsertOneRow.holds Try.pinned (OpenSpec.ofChange fnLacksInsertOneSpec)

/-- ITS FALSE NEIGHBOUR: 'it returns false'. Refute it at one input. -/
def fnLacksInsertOneWrong : ChangeSpec := { name := "fnLacksInsertOne", fn := fun _ => fun
  | [d1, d2, d3, d4] => { results := [.lit (.bool false)], args := [d1, d2, d3, d4] }
  | _ => none }
def FnLacksInsertOneWrongFalsely : Prop := fnLacksInsertOneRow.holds Try.pinned (OpenSpec.ofChange fnLacksInsertOneWrong)

/-- 'zzlaws_internal_paxos_b1.FnLacksLowerOne': WHATEVER THE INPUT: true; the input reads as it did. -/
def fnLacksLowerOneSpec : ChangeSpec := { name := "fnLacksLowerOne", fn := fun _ => fun
  | [d1, d2, d3] => { results := [.lit (.bool true)], args := [d1, d2, d3] }
  | _ => none }
def fnLacksLowerOneRow : OpenClaim := { program := "qxb6609016a", sum := "2ecb8e0a75e1708af297513bccf39cd09a50e4174067aaecdf827d054c1fb7b5", func := "example.com/synodic/synodic/zzlaws_internal_paxos_b1.FnLacksLowerOne", spec := "fnLacksLowerOne", apart := false }
def FnLacksLowerOneSaid : Prop := fnLacksLowerOneRow.holds Try.pinned (OpenSpec.ofChange fnLacksLowerOneSpec)

/-- ITS FALSE NEIGHBOUR: 'it returns false'. Refute it at one input. -/
def fnLacksLowerOneWrong : ChangeSpec := { name := "fnLacksLowerOne", fn := fun _ => fun
  | [d1, d2, d3] => { results := [.lit (.bool false)], args := [d1, d2, d3] }
  | _ => none }
def FnLacksLowerOneWrongFalsely : Prop := fnLacksLowerOneRow.holds Try.pinned (OpenSpec.ofChange fnLacksLowerOneWrong)

/-- 'zzlaws_internal_paxos_b1.FnStingHeldOrdersAfter': WHATEVER THE INPUT: true; the input reads as it did. -/
def fnStingHeldOrdersAfterSpec : ChangeSpec := { name := "fnStingHeldOrdersAfter", fn := fun _ => fun
  | [d1, d2] => { results := [.lit (.bool true)], args := [d1, d2] }
  | _ => none }
def fnStingHeldOrdersAfterRow : OpenClaim := { program := "qxb6609016a", sum := "2ecb8e0a75e1708af297513bccf39cd09a50e4174067aaecdf827d054c1fb7b5", func := "example.com/synodic/synodic/zzlaws_internal_paxos_b1.FnStingHeldOrdersAfter", spec := "fnStingHeldOrdersAfter", inPlace := ["internal/bytealg.IndexByteString"], apart := false }
def FnStingHeldOrdersAfterSaid : Prop := fnStingHeldOrdersAfterRow.holds Try.pinned (OpenSpec.ofChange fnStingHeldOrdersAfterSpec)

/-- ITS FALSE NEIGHBOUR: 'it returns false'. Refute it at one input. -/
def fnStingHeldOrdersAfterWrong : ChangeSpec := { name := "fnStingHeldOrdersAfter", fn := fun _ => fun
  | [d1, d2] => { results := [.lit (.bool false)], args := [d1, d2] }
  | _ => none }
def FnStingHeldOrdersAfterWrongFalsely : Prop := fnStingHeldOrdersAfterRow.holds Try.pinned (OpenSpec.ofChange fnStingHeldOrdersAfterWrong)

/-- 'zzlaws_internal_paxos_b1.FnStingSweepEveryOtherSting': WHATEVER THE INPUT: true; the input reads as it did. -/
def fnStingSweepEveryOtherStingSpec : ChangeSpec := { name := "fnStingSweepEveryOtherSting", fn := fun _ => fun
  | [d1, d2] => { results := [.lit (.bool true)], args := [d1, d2] }
  | _ => none }
def fnStingSweepEveryOtherStingRow : OpenClaim := { program := "qxb6609016a", sum := "2ecb8e0a75e1708af297513bccf39cd09a50e4174067aaecdf827d054c1fb7b5", func := "example.com/synodic/synodic/zzlaws_internal_paxos_b1.FnStingSweepEveryOtherSting", spec := "fnStingSweepEveryOtherSting", inPlace := ["internal/bytealg.IndexByteString"], apart := false }
def FnStingSweepEveryOtherStingSaid : Prop := fnStingSweepEveryOtherStingRow.holds Try.pinned (OpenSpec.ofChange fnStingSweepEveryOtherStingSpec)

/-- ITS FALSE NEIGHBOUR: 'it returns false'. Refute it at one input. -/
def fnStingSweepEveryOtherStingWrong : ChangeSpec := { name := "fnStingSweepEveryOtherSting", fn := fun _ => fun
  | [d1, d2] => { results := [.lit (.bool false)], args := [d1, d2] }
  | _ => none }
def FnStingSweepEveryOtherStingWrongFalsely : Prop := fnStingSweepEveryOtherStingRow.holds Try.pinned (OpenSpec.ofChange fnStingSweepEveryOtherStingWrong)

end Rows
end Go.Proofs.Qxb6609016a
