/-
  No cell of these rows narrows 'for every input' (looked for: loops, veiled, ifaces, maps, wideKeys, modest, calm, conditions, laid).
  DERIVED. THE GIVEN ROWS OF THIS SEAT. 7 by the template 'for every input the law returns true; each argument reads behind the call as it read before'; 0 by the template 'total and deterministic' (their statements: Qxb6602028aTotals.lean).
  GIVEN WITH THE SEED: the statements are not yours to turn. If you find one false, say at which input.
  Laid BY PROGRAM, IN A SANDBOX (cutbox-rows.mjs): the forced cells as the released guide's own fill.sh prints them over the translation e167ec722288cb19… (all of the seat's roots in one cut). By AI agents, Wed Nov 11 2026. No macro, syntax, notation, axiom, sorry.
-/
import Derived.Test.Qxb6602028aChecked
import GoSem.Claim
import GoSem.ClaimJoined
import GoSem.ClaimMapViews
import Derived.JoinedTies
import Derived.KernelRfl
namespace Go.Proofs.Qxb6602028a
/- THE CELL 'sum', in the pinned program and in every row, IS THE sha256 OF THE DUMP (.gsa) THAT Qxb6602028aProg.lean LOADS. Nothing in Lean hashes anything: it is a label: what it is worth is what the hold of that sum in a sandbox is worth. -/
noncomputable def Try.pinned : Pinned := { name := "qxb6602028a", sum := "e167ec722288cb198afc23e90896fc364ed4e9d1bd1bef663642ea61035a296c", checked := Try.checked }
namespace Rows
def none {H : Type} : Left H := { results := [], args := [] }

/-- 'zzlaws_policy_b1.FnValidMethodSpec': WHATEVER THE INPUT: true; the input reads as it did. -/
def fnValidMethodSpecSpec : ChangeSpec := { name := "fnValidMethodSpec", fn := fun _ => fun
  | [d] => { results := [.lit (.bool true)], args := [d] }
  | _ => none }
def fnValidMethodSpecRow : OpenClaim := { program := "qxb6602028a", sum := "e167ec722288cb198afc23e90896fc364ed4e9d1bd1bef663642ea61035a296c", func := "example.com/portcullis/portcullis/zzlaws_policy_b1.FnValidMethodSpec", spec := "fnValidMethodSpec", inPlace := ["internal/bytealg.IndexByteString"], apart := false }
def FnValidMethodSpecSaid : Prop := fnValidMethodSpecRow.holds Try.pinned (OpenSpec.ofChange fnValidMethodSpecSpec)

/-- ITS FALSE NEIGHBOUR: 'it returns false'. Refute it at one input. -/
def fnValidMethodSpecWrong : ChangeSpec := { name := "fnValidMethodSpec", fn := fun _ => fun
  | [d] => { results := [.lit (.bool false)], args := [d] }
  | _ => none }
def FnValidMethodSpecWrongFalsely : Prop := fnValidMethodSpecRow.holds Try.pinned (OpenSpec.ofChange fnValidMethodSpecWrong)

/-- 'zzlaws_policy_b1.FnValidMethodConcat': WHATEVER THE INPUT: true; the input reads as it did. -/
def fnValidMethodConcatSpec : ChangeSpec := { name := "fnValidMethodConcat", fn := fun _ => fun
  | [d1, d2] => { results := [.lit (.bool true)], args := [d1, d2] }
  | _ => none }
def fnValidMethodConcatRow : OpenClaim := { program := "qxb6602028a", sum := "e167ec722288cb198afc23e90896fc364ed4e9d1bd1bef663642ea61035a296c", func := "example.com/portcullis/portcullis/zzlaws_policy_b1.FnValidMethodConcat", spec := "fnValidMethodConcat", inPlace := ["internal/bytealg.IndexByteString"], apart := false }
def FnValidMethodConcatSaid : Prop := fnValidMethodConcatRow.holds Try.pinned (OpenSpec.ofChange fnValidMethodConcatSpec)

/-- ITS FALSE NEIGHBOUR: 'it returns false'. Refute it at one input. -/
def fnValidMethodConcatWrong : ChangeSpec := { name := "fnValidMethodConcat", fn := fun _ => fun
  | [d1, d2] => { results := [.lit (.bool false)], args := [d1, d2] }
  | _ => none }
def FnValidMethodConcatWrongFalsely : Prop := fnValidMethodConcatRow.holds Try.pinned (OpenSpec.ofChange fnValidMethodConcatWrong)

/-- 'zzlaws_policy_b1.FnValidNameSpec': WHATEVER THE INPUT: true; the input reads as it did. -/
def fnValidNameSpecSpec : ChangeSpec := { name := "fnValidNameSpec", fn := fun _ => fun
  | [d] => { results := [.lit (.bool true)], args := [d] }
  | _ => none }
def fnValidNameSpecRow : OpenClaim := { program := "qxb6602028a", sum := "e167ec722288cb198afc23e90896fc364ed4e9d1bd1bef663642ea61035a296c", func := "example.com/portcullis/portcullis/zzlaws_policy_b1.FnValidNameSpec", spec := "fnValidNameSpec", apart := false }
def FnValidNameSpecSaid : Prop := fnValidNameSpecRow.holds Try.pinned (OpenSpec.ofChange fnValidNameSpecSpec)

/-- ITS FALSE NEIGHBOUR: 'it returns false'. Refute it at one input. -/
def fnValidNameSpecWrong : ChangeSpec := { name := "fnValidNameSpec", fn := fun _ => fun
  | [d] => { results := [.lit (.bool false)], args := [d] }
  | _ => none }
def FnValidNameSpecWrongFalsely : Prop := fnValidNameSpecRow.holds Try.pinned (OpenSpec.ofChange fnValidNameSpecWrong)

/-- 'zzlaws_policy_b1.FnValidNameCaseFree': WHATEVER THE INPUT: true; the input reads as it did. -/
def fnValidNameCaseFreeSpec : ChangeSpec := { name := "fnValidNameCaseFree", fn := fun _ => fun
  | [d] => { results := [.lit (.bool true)], args := [d] }
  | _ => none }
def fnValidNameCaseFreeRow : OpenClaim := { program := "qxb6602028a", sum := "e167ec722288cb198afc23e90896fc364ed4e9d1bd1bef663642ea61035a296c", func := "example.com/portcullis/portcullis/zzlaws_policy_b1.FnValidNameCaseFree", spec := "fnValidNameCaseFree", inPlace := ["internal/bytealg.IndexByteString"], apart := false }
def FnValidNameCaseFreeSaid : Prop := fnValidNameCaseFreeRow.holds Try.pinned (OpenSpec.ofChange fnValidNameCaseFreeSpec)

/-- ITS FALSE NEIGHBOUR: 'it returns false'. Refute it at one input. -/
def fnValidNameCaseFreeWrong : ChangeSpec := { name := "fnValidNameCaseFree", fn := fun _ => fun
  | [d] => { results := [.lit (.bool false)], args := [d] }
  | _ => none }
def FnValidNameCaseFreeWrongFalsely : Prop := fnValidNameCaseFreeRow.holds Try.pinned (OpenSpec.ofChange fnValidNameCaseFreeWrong)

/-- 'zzlaws_policy_b1.FnValidNameConcat': WHATEVER THE INPUT: true; the input reads as it did. -/
def fnValidNameConcatSpec : ChangeSpec := { name := "fnValidNameConcat", fn := fun _ => fun
  | [d1, d2] => { results := [.lit (.bool true)], args := [d1, d2] }
  | _ => none }
def fnValidNameConcatRow : OpenClaim := { program := "qxb6602028a", sum := "e167ec722288cb198afc23e90896fc364ed4e9d1bd1bef663642ea61035a296c", func := "example.com/portcullis/portcullis/zzlaws_policy_b1.FnValidNameConcat", spec := "fnValidNameConcat", apart := false }
def FnValidNameConcatSaid : Prop := fnValidNameConcatRow.holds Try.pinned (OpenSpec.ofChange fnValidNameConcatSpec)

/-- ITS FALSE NEIGHBOUR: 'it returns false'. Refute it at one input. -/
def fnValidNameConcatWrong : ChangeSpec := { name := "fnValidNameConcat", fn := fun _ => fun
  | [d1, d2] => { results := [.lit (.bool false)], args := [d1, d2] }
  | _ => none }
def FnValidNameConcatWrongFalsely : Prop := fnValidNameConcatRow.holds Try.pinned (OpenSpec.ofChange fnValidNameConcatWrong)

/-- 'zzlaws_policy_b1.FnMatchesOwnPattern': WHATEVER THE INPUT: true; the input reads as it did. -/
def fnMatchesOwnPatternSpec : ChangeSpec := { name := "fnMatchesOwnPattern", fn := fun _ => fun
  | [d] => { results := [.lit (.bool true)], args := [d] }
  | _ => none }
def fnMatchesOwnPatternRow : OpenClaim := { program := "qxb6602028a", sum := "e167ec722288cb198afc23e90896fc364ed4e9d1bd1bef663642ea61035a296c", func := "example.com/portcullis/portcullis/zzlaws_policy_b1.FnMatchesOwnPattern", spec := "fnMatchesOwnPattern", apart := false }
def FnMatchesOwnPatternSaid : Prop := fnMatchesOwnPatternRow.holds Try.pinned (OpenSpec.ofChange fnMatchesOwnPatternSpec)

/-- ITS FALSE NEIGHBOUR: 'it returns false'. Refute it at one input. -/
def fnMatchesOwnPatternWrong : ChangeSpec := { name := "fnMatchesOwnPattern", fn := fun _ => fun
  | [d] => { results := [.lit (.bool false)], args := [d] }
  | _ => none }
def FnMatchesOwnPatternWrongFalsely : Prop := fnMatchesOwnPatternRow.holds Try.pinned (OpenSpec.ofChange fnMatchesOwnPatternWrong)

/-- 'zzlaws_policy_b1.FnMatchesParameterAsSegment': WHATEVER THE INPUT: true; the input reads as it did. -/
def fnMatchesParameterAsSegmentSpec : ChangeSpec := { name := "fnMatchesParameterAsSegment", fn := fun _ => fun
  | [d1, d2, d3, d4] => { results := [.lit (.bool true)], args := [d1, d2, d3, d4] }
  | _ => none }
def fnMatchesParameterAsSegmentRow : OpenClaim := { program := "qxb6602028a", sum := "e167ec722288cb198afc23e90896fc364ed4e9d1bd1bef663642ea61035a296c", func := "example.com/portcullis/portcullis/zzlaws_policy_b1.FnMatchesParameterAsSegment", spec := "fnMatchesParameterAsSegment", apart := false }
def FnMatchesParameterAsSegmentSaid : Prop := fnMatchesParameterAsSegmentRow.holds Try.pinned (OpenSpec.ofChange fnMatchesParameterAsSegmentSpec)

/-- ITS FALSE NEIGHBOUR: 'it returns false'. Refute it at one input. -/
def fnMatchesParameterAsSegmentWrong : ChangeSpec := { name := "fnMatchesParameterAsSegment", fn := fun _ => fun
  | [d1, d2, d3, d4] => { results := [.lit (.bool false)], args := [d1, d2, d3, d4] }
  | _ => none }
def FnMatchesParameterAsSegmentWrongFalsely : Prop := fnMatchesParameterAsSegmentRow.holds Try.pinned (OpenSpec.ofChange fnMatchesParameterAsSegmentWrong)

end Rows
end Go.Proofs.Qxb6602028a
