/-
  No cell of these rows narrows 'for every input' (looked for: loops, veiled, ifaces, maps, wideKeys, modest, calm, conditions, laid).
  DERIVED. THE GIVEN ROWS OF THIS SEAT. 2 by the template 'for every input the law returns true; each argument reads behind the call as it read before'; 0 by the template 'total and deterministic' (their statements: Qxb6603581aTotals.lean).
  GIVEN WITH THE SEED: the statements are not yours to turn. If you find one false, say at which input.
  Laid BY PROGRAM, IN A SANDBOX (cutbox-rows.mjs): the forced cells as the released guide's own fill.sh prints them over the translation a71c2693129fb708… (all of the seat's roots in one cut). By AI agents, Wed Nov 11 2026. No macro, syntax, notation, axiom, sorry.
-/
import Derived.Test.Qxb6603581aChecked
import GoSem.Claim
import GoSem.ClaimJoined
import GoSem.ClaimMapViews
import Derived.JoinedTies
import Derived.KernelRfl
namespace Go.Proofs.Qxb6603581a
/- THE CELL 'sum', in the pinned program and in every row, IS THE sha256 OF THE DUMP (.gsa) THAT Qxb6603581aProg.lean LOADS. Nothing in Lean hashes anything: it is a label: what it is worth is what the hold of that sum in a sandbox is worth. -/
noncomputable def Try.pinned : Pinned := { name := "qxb6603581a", sum := "a71c2693129fb708eab9d57a1e2429941371b37548ae64f100ae2b0e7ba4ae32", checked := Try.checked }
namespace Rows
def none {H : Type} : Left H := { results := [], args := [] }

/-- 'zzlaws_internal_latch_b1.FnSlotsOfMatchesFNVBuckets': WHATEVER THE INPUT: true; the input reads as it did. -/
def fnSlotsOfMatchesFNVBucketsSpec : ChangeSpec := { name := "fnSlotsOfMatchesFNVBuckets", fn := fun _ => fun
  | [d] => { results := [.lit (.bool true)], args := [d] }
  | _ => none }
def fnSlotsOfMatchesFNVBucketsRow : OpenClaim := { program := "qxb6603581a", sum := "a71c2693129fb708eab9d57a1e2429941371b37548ae64f100ae2b0e7ba4ae32", func := "example.com/rangekeeper/rangekeeper/zzlaws_internal_latch_b1.FnSlotsOfMatchesFNVBuckets", spec := "fnSlotsOfMatchesFNVBuckets", unfollowed := true, recurses := true, apart := false }
def FnSlotsOfMatchesFNVBucketsSaid : Prop := fnSlotsOfMatchesFNVBucketsRow.holds Try.pinned (OpenSpec.ofChange fnSlotsOfMatchesFNVBucketsSpec)

/-- ITS FALSE NEIGHBOUR: 'it returns false'. Refute it at one input. -/
def fnSlotsOfMatchesFNVBucketsWrong : ChangeSpec := { name := "fnSlotsOfMatchesFNVBuckets", fn := fun _ => fun
  | [d] => { results := [.lit (.bool false)], args := [d] }
  | _ => none }
def FnSlotsOfMatchesFNVBucketsWrongFalsely : Prop := fnSlotsOfMatchesFNVBucketsRow.holds Try.pinned (OpenSpec.ofChange fnSlotsOfMatchesFNVBucketsWrong)

/-- 'zzlaws_internal_latch_b1.FnSlotsOfIsSortedUnionOfSingles': WHATEVER THE INPUT: true; the input reads as it did. -/
def fnSlotsOfIsSortedUnionOfSinglesSpec : ChangeSpec := { name := "fnSlotsOfIsSortedUnionOfSingles", fn := fun _ => fun
  | [d] => { results := [.lit (.bool true)], args := [d] }
  | _ => none }
def fnSlotsOfIsSortedUnionOfSinglesRow : OpenClaim := { program := "qxb6603581a", sum := "a71c2693129fb708eab9d57a1e2429941371b37548ae64f100ae2b0e7ba4ae32", func := "example.com/rangekeeper/rangekeeper/zzlaws_internal_latch_b1.FnSlotsOfIsSortedUnionOfSingles", spec := "fnSlotsOfIsSortedUnionOfSingles", unfollowed := true, recurses := true, apart := false }
def FnSlotsOfIsSortedUnionOfSinglesSaid : Prop := fnSlotsOfIsSortedUnionOfSinglesRow.holds Try.pinned (OpenSpec.ofChange fnSlotsOfIsSortedUnionOfSinglesSpec)

/-- ITS FALSE NEIGHBOUR: 'it returns false'. Refute it at one input. -/
def fnSlotsOfIsSortedUnionOfSinglesWrong : ChangeSpec := { name := "fnSlotsOfIsSortedUnionOfSingles", fn := fun _ => fun
  | [d] => { results := [.lit (.bool false)], args := [d] }
  | _ => none }
def FnSlotsOfIsSortedUnionOfSinglesWrongFalsely : Prop := fnSlotsOfIsSortedUnionOfSinglesRow.holds Try.pinned (OpenSpec.ofChange fnSlotsOfIsSortedUnionOfSinglesWrong)

end Rows
end Go.Proofs.Qxb6603581a
