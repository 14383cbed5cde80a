/-
  No cell of these rows narrows 'for every input' (looked for: loops, veiled, ifaces, maps, wideKeys, modest, calm, conditions, laid).
  DERIVED. THE GIVEN ROWS OF THIS SEAT. 1 by the template 'for every input the law returns true; each argument reads behind the call as it read before'; 0 by the template 'total and deterministic' (their statements: Qxb6609231aTotals.lean).
  GIVEN WITH THE SEED: the statements are not yours to turn. If you find one false, say at which input.
  Laid BY PROGRAM, IN A SANDBOX (cutbox-rows.mjs): the forced cells as the released guide's own fill.sh prints them over the translation 454f24dfd6c74261… (all of the seat's roots in one cut). By AI agents, Wed Nov 11 2026. No macro, syntax, notation, axiom, sorry.
-/
import Derived.Test.Qxb6609231aChecked
import GoSem.Claim
import GoSem.ClaimJoined
import GoSem.ClaimMapViews
import Derived.JoinedTies
import Derived.KernelRfl
namespace Go.Proofs.Qxb6609231a
/- THE CELL 'sum', in the pinned program and in every row, IS THE sha256 OF THE DUMP (.gsa) THAT Qxb6609231aProg.lean LOADS. Nothing in Lean hashes anything: it is a label: what it is worth is what the hold of that sum in a sandbox is worth. -/
noncomputable def Try.pinned : Pinned := { name := "qxb6609231a", sum := "454f24dfd6c74261ecc1532cd49a2d4d3668f6289832e7df5408c5c673f6cf75", checked := Try.checked }
namespace Rows
def none {H : Type} : Left H := { results := [], args := [] }

/-- 'zzlaws_bson_b1.FnCountCountsWhatIsLaidOut': WHATEVER THE INPUT: true; the input reads as it did. -/
def fnCountCountsWhatIsLaidOutSpec : ChangeSpec := { name := "fnCountCountsWhatIsLaidOut", fn := fun _ => fun
  | [d1, d2] => { results := [.lit (.bool true)], args := [d1, d2] }
  | _ => none }
def fnCountCountsWhatIsLaidOutRow : OpenClaim := { program := "qxb6609231a", sum := "454f24dfd6c74261ecc1532cd49a2d4d3668f6289832e7df5408c5c673f6cf75", func := "example.com/moorings/moorings/zzlaws_bson_b1.FnCountCountsWhatIsLaidOut", spec := "fnCountCountsWhatIsLaidOut", inPlace := ["internal/bytealg.IndexByte"], named := ["encoding/binary.LittleEndian"], apart := false }
def FnCountCountsWhatIsLaidOutSaid : Prop := fnCountCountsWhatIsLaidOutRow.holds Try.pinned (OpenSpec.ofChange fnCountCountsWhatIsLaidOutSpec)

/-- ITS FALSE NEIGHBOUR: 'it returns false'. Refute it at one input. -/
def fnCountCountsWhatIsLaidOutWrong : ChangeSpec := { name := "fnCountCountsWhatIsLaidOut", fn := fun _ => fun
  | [d1, d2] => { results := [.lit (.bool false)], args := [d1, d2] }
  | _ => none }
def FnCountCountsWhatIsLaidOutWrongFalsely : Prop := fnCountCountsWhatIsLaidOutRow.holds Try.pinned (OpenSpec.ofChange fnCountCountsWhatIsLaidOutWrong)

end Rows
end Go.Proofs.Qxb6609231a
