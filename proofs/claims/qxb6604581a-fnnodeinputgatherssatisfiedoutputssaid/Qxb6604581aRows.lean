/-
  No cell of these rows narrows 'for every input' (looked for: loops, veiled, ifaces, maps, wideKeys, modest, calm, conditions, laid).
  DERIVED. THE GIVEN ROWS OF THIS SEAT. 4 by the template 'for every input the law returns true; each argument reads behind the call as it read before'; 0 by the template 'total and deterministic' (their statements: Qxb6604581aTotals.lean).
  GIVEN WITH THE SEED: the statements are not yours to turn. If you find one false, say at which input.
  Laid BY PROGRAM, IN A SANDBOX (cutbox-rows.mjs): the forced cells as the released guide's own fill.sh prints them over the translation 2ff33ca6eecc3579… (all of the seat's roots in one cut). By AI agents, Wed Nov 11 2026. No macro, syntax, notation, axiom, sorry.
-/
import Derived.Test.Qxb6604581aChecked
import GoSem.Claim
import GoSem.ClaimJoined
import GoSem.ClaimMapViews
import Derived.JoinedTies
import Derived.KernelRfl
namespace Go.Proofs.Qxb6604581a
/- THE CELL 'sum', in the pinned program and in every row, IS THE sha256 OF THE DUMP (.gsa) THAT Qxb6604581aProg.lean LOADS. Nothing in Lean hashes anything: it is a label: what it is worth is what the hold of that sum in a sandbox is worth. -/
noncomputable def Try.pinned : Pinned := { name := "qxb6604581a", sum := "2ff33ca6eecc3579d976c6de941b14bdf211960c4f17b8ed2dd473e5949368c5", checked := Try.checked }
namespace Rows
def none {H : Type} : Left H := { results := [], args := [] }

/-- 'zzlaws_root_b1.FnListLocatesEveryCandidate': WHATEVER THE INPUT: true; the input reads as it did. -/
def fnListLocatesEveryCandidateSpec : ChangeSpec := { name := "fnListLocatesEveryCandidate", fn := fun _ => fun
  | [d1, d2] => { results := [.lit (.bool true)], args := [d1, d2] }
  | _ => none }
def fnListLocatesEveryCandidateRow : OpenClaim := { program := "qxb6604581a", sum := "2ff33ca6eecc3579d976c6de941b14bdf211960c4f17b8ed2dd473e5949368c5", func := "example.com/tierwake/tierwake/zzlaws_root_b1.FnListLocatesEveryCandidate", spec := "fnListLocatesEveryCandidate", apart := false }
def FnListLocatesEveryCandidateSaid : Prop := fnListLocatesEveryCandidateRow.holds Try.pinned (OpenSpec.ofChange fnListLocatesEveryCandidateSpec)

/-- ITS FALSE NEIGHBOUR: 'it returns false'. Refute it at one input. -/
def fnListLocatesEveryCandidateWrong : ChangeSpec := { name := "fnListLocatesEveryCandidate", fn := fun _ => fun
  | [d1, d2] => { results := [.lit (.bool false)], args := [d1, d2] }
  | _ => none }
def FnListLocatesEveryCandidateWrongFalsely : Prop := fnListLocatesEveryCandidateRow.holds Try.pinned (OpenSpec.ofChange fnListLocatesEveryCandidateWrong)

/-- 'zzlaws_root_b1.FnListAppendLeavesAllAlone': WHATEVER THE INPUT: true; the input reads as it did. -/
def fnListAppendLeavesAllAloneSpec : ChangeSpec := { name := "fnListAppendLeavesAllAlone", fn := fun _ => fun
  | [d1, d2] => { results := [.lit (.bool true)], args := [d1, d2] }
  | _ => none }
def fnListAppendLeavesAllAloneRow : OpenClaim := { program := "qxb6604581a", sum := "2ff33ca6eecc3579d976c6de941b14bdf211960c4f17b8ed2dd473e5949368c5", func := "example.com/tierwake/tierwake/zzlaws_root_b1.FnListAppendLeavesAllAlone", spec := "fnListAppendLeavesAllAlone", apart := false }
def FnListAppendLeavesAllAloneSaid : Prop := fnListAppendLeavesAllAloneRow.holds Try.pinned (OpenSpec.ofChange fnListAppendLeavesAllAloneSpec)

/-- ITS FALSE NEIGHBOUR: 'it returns false'. Refute it at one input. -/
def fnListAppendLeavesAllAloneWrong : ChangeSpec := { name := "fnListAppendLeavesAllAlone", fn := fun _ => fun
  | [d1, d2] => { results := [.lit (.bool false)], args := [d1, d2] }
  | _ => none }
def FnListAppendLeavesAllAloneWrongFalsely : Prop := fnListAppendLeavesAllAloneRow.holds Try.pinned (OpenSpec.ofChange fnListAppendLeavesAllAloneWrong)

/-- 'zzlaws_root_b1.FnNodeInputGathersSatisfiedOutputs': WHATEVER THE INPUT: true; the input reads as it did. -/
def fnNodeInputGathersSatisfiedOutputsSpec : ChangeSpec := { name := "fnNodeInputGathersSatisfiedOutputs", fn := fun _ => fun
  | [d1, d2, d3] => { results := [.lit (.bool true)], args := [d1, d2, d3] }
  | _ => none }
def fnNodeInputGathersSatisfiedOutputsRow : OpenClaim := { program := "qxb6604581a", sum := "2ff33ca6eecc3579d976c6de941b14bdf211960c4f17b8ed2dd473e5949368c5", func := "example.com/tierwake/tierwake/zzlaws_root_b1.FnNodeInputGathersSatisfiedOutputs", spec := "fnNodeInputGathersSatisfiedOutputs", apart := false }
def FnNodeInputGathersSatisfiedOutputsSaid : Prop := fnNodeInputGathersSatisfiedOutputsRow.holds Try.pinned (OpenSpec.ofChange fnNodeInputGathersSatisfiedOutputsSpec)

/-- ITS FALSE NEIGHBOUR: 'it returns false'. Refute it at one input. -/
def fnNodeInputGathersSatisfiedOutputsWrong : ChangeSpec := { name := "fnNodeInputGathersSatisfiedOutputs", fn := fun _ => fun
  | [d1, d2, d3] => { results := [.lit (.bool false)], args := [d1, d2, d3] }
  | _ => none }
def FnNodeInputGathersSatisfiedOutputsWrongFalsely : Prop := fnNodeInputGathersSatisfiedOutputsRow.holds Try.pinned (OpenSpec.ofChange fnNodeInputGathersSatisfiedOutputsWrong)

/-- 'zzlaws_root_b1.FnNodeInputCopiesUnlessSoleHandOver': WHATEVER THE INPUT: true; the input reads as it did. -/
def fnNodeInputCopiesUnlessSoleHandOverSpec : ChangeSpec := { name := "fnNodeInputCopiesUnlessSoleHandOver", fn := fun _ => fun
  | [d1, d2, d3] => { results := [.lit (.bool true)], args := [d1, d2, d3] }
  | _ => none }
def fnNodeInputCopiesUnlessSoleHandOverRow : OpenClaim := { program := "qxb6604581a", sum := "2ff33ca6eecc3579d976c6de941b14bdf211960c4f17b8ed2dd473e5949368c5", func := "example.com/tierwake/tierwake/zzlaws_root_b1.FnNodeInputCopiesUnlessSoleHandOver", spec := "fnNodeInputCopiesUnlessSoleHandOver", apart := false }
def FnNodeInputCopiesUnlessSoleHandOverSaid : Prop := fnNodeInputCopiesUnlessSoleHandOverRow.holds Try.pinned (OpenSpec.ofChange fnNodeInputCopiesUnlessSoleHandOverSpec)

/-- ITS FALSE NEIGHBOUR: 'it returns false'. Refute it at one input. -/
def fnNodeInputCopiesUnlessSoleHandOverWrong : ChangeSpec := { name := "fnNodeInputCopiesUnlessSoleHandOver", fn := fun _ => fun
  | [d1, d2, d3] => { results := [.lit (.bool false)], args := [d1, d2, d3] }
  | _ => none }
def FnNodeInputCopiesUnlessSoleHandOverWrongFalsely : Prop := fnNodeInputCopiesUnlessSoleHandOverRow.holds Try.pinned (OpenSpec.ofChange fnNodeInputCopiesUnlessSoleHandOverWrong)

end Rows
end Go.Proofs.Qxb6604581a
