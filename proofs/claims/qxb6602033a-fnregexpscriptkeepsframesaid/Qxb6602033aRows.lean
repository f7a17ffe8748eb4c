/-
  No cell of these rows narrows 'for every input' (looked for: loops, veiled, ifaces, maps, wideKeys, modest, calm, conditions, laid).
  DERIVED. THE GIVEN ROWS OF THIS SEAT. 9 by the template 'for every input the law returns true; each argument reads behind the call as it read before'; 0 by the template 'total and deterministic' (their statements: Qxb6602033aTotals.lean).
  GIVEN WITH THE SEED: the statements are not yours to turn. If you find one false, say at which input.
  Laid BY PROGRAM, IN A SANDBOX (cutbox-rows.mjs): the forced cells as the released guide's own fill.sh prints them over the translation e12ac9d93022f607… (all of the seat's roots in one cut). By AI agents, Wed Nov 11 2026. No macro, syntax, notation, axiom, sorry.
-/
import Derived.Test.Qxb6602033aChecked
import GoSem.Claim
import GoSem.ClaimJoined
import GoSem.ClaimMapViews
import Derived.JoinedTies
import Derived.KernelRfl
namespace Go.Proofs.Qxb6602033a
/- THE CELL 'sum', in the pinned program and in every row, IS THE sha256 OF THE DUMP (.gsa) THAT Qxb6602033aProg.lean LOADS. Nothing in Lean hashes anything: it is a label: what it is worth is what the hold of that sum in a sandbox is worth. -/
noncomputable def Try.pinned : Pinned := { name := "qxb6602033a", sum := "e12ac9d93022f607e9378dd9b1da85f9aac9d348dd92c34e7370b0dcfcd5cafd", checked := Try.checked }
namespace Rows
def none {H : Type} : Left H := { results := [], args := [] }

/-- 'zzlaws_root_b1.FnCandidateAfterIsUnionOfPlaceSteps': WHATEVER THE INPUT: true; the input reads as it did. -/
def fnCandidateAfterIsUnionOfPlaceStepsSpec : ChangeSpec := { name := "fnCandidateAfterIsUnionOfPlaceSteps", fn := fun _ => fun
  | [d1, d2] => { results := [.lit (.bool true)], args := [d1, d2] }
  | _ => none }
def fnCandidateAfterIsUnionOfPlaceStepsRow : OpenClaim := { program := "qxb6602033a", sum := "e12ac9d93022f607e9378dd9b1da85f9aac9d348dd92c34e7370b0dcfcd5cafd", func := "example.com/ermine/ermine/zzlaws_root_b1.FnCandidateAfterIsUnionOfPlaceSteps", spec := "fnCandidateAfterIsUnionOfPlaceSteps", apart := false }
def FnCandidateAfterIsUnionOfPlaceStepsSaid : Prop := fnCandidateAfterIsUnionOfPlaceStepsRow.holds Try.pinned (OpenSpec.ofChange fnCandidateAfterIsUnionOfPlaceStepsSpec)

/-- ITS FALSE NEIGHBOUR: 'it returns false'. Refute it at one input. -/
def fnCandidateAfterIsUnionOfPlaceStepsWrong : ChangeSpec := { name := "fnCandidateAfterIsUnionOfPlaceSteps", fn := fun _ => fun
  | [d1, d2] => { results := [.lit (.bool false)], args := [d1, d2] }
  | _ => none }
def FnCandidateAfterIsUnionOfPlaceStepsWrongFalsely : Prop := fnCandidateAfterIsUnionOfPlaceStepsRow.holds Try.pinned (OpenSpec.ofChange fnCandidateAfterIsUnionOfPlaceStepsWrong)

/-- 'zzlaws_root_b1.FnCandidateAfterDistributesOverUnion': WHATEVER THE INPUT: true; the input reads as it did. -/
def fnCandidateAfterDistributesOverUnionSpec : ChangeSpec := { name := "fnCandidateAfterDistributesOverUnion", fn := fun _ => fun
  | [d1, d2, d3] => { results := [.lit (.bool true)], args := [d1, d2, d3] }
  | _ => none }
def fnCandidateAfterDistributesOverUnionRow : OpenClaim := { program := "qxb6602033a", sum := "e12ac9d93022f607e9378dd9b1da85f9aac9d348dd92c34e7370b0dcfcd5cafd", func := "example.com/ermine/ermine/zzlaws_root_b1.FnCandidateAfterDistributesOverUnion", spec := "fnCandidateAfterDistributesOverUnion", apart := false }
def FnCandidateAfterDistributesOverUnionSaid : Prop := fnCandidateAfterDistributesOverUnionRow.holds Try.pinned (OpenSpec.ofChange fnCandidateAfterDistributesOverUnionSpec)

/-- ITS FALSE NEIGHBOUR: 'it returns false'. Refute it at one input. -/
def fnCandidateAfterDistributesOverUnionWrong : ChangeSpec := { name := "fnCandidateAfterDistributesOverUnion", fn := fun _ => fun
  | [d1, d2, d3] => { results := [.lit (.bool false)], args := [d1, d2, d3] }
  | _ => none }
def FnCandidateAfterDistributesOverUnionWrongFalsely : Prop := fnCandidateAfterDistributesOverUnionRow.holds Try.pinned (OpenSpec.ofChange fnCandidateAfterDistributesOverUnionWrong)

/-- 'zzlaws_root_b1.FnCandidateAfterNeverLosesAValidPlace': WHATEVER THE INPUT: true; the input reads as it did. -/
def fnCandidateAfterNeverLosesAValidPlaceSpec : ChangeSpec := { name := "fnCandidateAfterNeverLosesAValidPlace", fn := fun _ => fun
  | [d1, d2] => { results := [.lit (.bool true)], args := [d1, d2] }
  | _ => none }
def fnCandidateAfterNeverLosesAValidPlaceRow : OpenClaim := { program := "qxb6602033a", sum := "e12ac9d93022f607e9378dd9b1da85f9aac9d348dd92c34e7370b0dcfcd5cafd", func := "example.com/ermine/ermine/zzlaws_root_b1.FnCandidateAfterNeverLosesAValidPlace", spec := "fnCandidateAfterNeverLosesAValidPlace", apart := false }
def FnCandidateAfterNeverLosesAValidPlaceSaid : Prop := fnCandidateAfterNeverLosesAValidPlaceRow.holds Try.pinned (OpenSpec.ofChange fnCandidateAfterNeverLosesAValidPlaceSpec)

/-- ITS FALSE NEIGHBOUR: 'it returns false'. Refute it at one input. -/
def fnCandidateAfterNeverLosesAValidPlaceWrong : ChangeSpec := { name := "fnCandidateAfterNeverLosesAValidPlace", fn := fun _ => fun
  | [d1, d2] => { results := [.lit (.bool false)], args := [d1, d2] }
  | _ => none }
def FnCandidateAfterNeverLosesAValidPlaceWrongFalsely : Prop := fnCandidateAfterNeverLosesAValidPlaceRow.holds Try.pinned (OpenSpec.ofChange fnCandidateAfterNeverLosesAValidPlaceWrong)

/-- 'zzlaws_root_b1.FnQuotedFieldByField': WHATEVER THE INPUT: true; the input reads as it did. -/
def fnQuotedFieldByFieldSpec : ChangeSpec := { name := "fnQuotedFieldByField", fn := fun _ => fun
  | [d1, d2, d3, d4, d5, d6, d7, d8, d9, d10] => { results := [.lit (.bool true)], args := [d1, d2, d3, d4, d5, d6, d7, d8, d9, d10] }
  | _ => none }
def fnQuotedFieldByFieldRow : OpenClaim := { program := "qxb6602033a", sum := "e12ac9d93022f607e9378dd9b1da85f9aac9d348dd92c34e7370b0dcfcd5cafd", func := "example.com/ermine/ermine/zzlaws_root_b1.FnQuotedFieldByField", spec := "fnQuotedFieldByField", apart := false }
def FnQuotedFieldByFieldSaid : Prop := fnQuotedFieldByFieldRow.holds Try.pinned (OpenSpec.ofChange fnQuotedFieldByFieldSpec)

/-- ITS FALSE NEIGHBOUR: 'it returns false'. Refute it at one input. -/
def fnQuotedFieldByFieldWrong : ChangeSpec := { name := "fnQuotedFieldByField", fn := fun _ => fun
  | [d1, d2, d3, d4, d5, d6, d7, d8, d9, d10] => { results := [.lit (.bool false)], args := [d1, d2, d3, d4, d5, d6, d7, d8, d9, d10] }
  | _ => none }
def FnQuotedFieldByFieldWrongFalsely : Prop := fnQuotedFieldByFieldRow.holds Try.pinned (OpenSpec.ofChange fnQuotedFieldByFieldWrong)

/-- 'zzlaws_root_b1.FnQuotedEscapeIsTransparent': WHATEVER THE INPUT: true; the input reads as it did. -/
def fnQuotedEscapeIsTransparentSpec : ChangeSpec := { name := "fnQuotedEscapeIsTransparent", fn := fun _ => fun
  | [d1, d2, d3, d4, d5, d6, d7, d8, d9, d10, d11] => { results := [.lit (.bool true)], args := [d1, d2, d3, d4, d5, d6, d7, d8, d9, d10, d11] }
  | _ => none }
def fnQuotedEscapeIsTransparentRow : OpenClaim := { program := "qxb6602033a", sum := "e12ac9d93022f607e9378dd9b1da85f9aac9d348dd92c34e7370b0dcfcd5cafd", func := "example.com/ermine/ermine/zzlaws_root_b1.FnQuotedEscapeIsTransparent", spec := "fnQuotedEscapeIsTransparent", apart := false }
def FnQuotedEscapeIsTransparentSaid : Prop := fnQuotedEscapeIsTransparentRow.holds Try.pinned (OpenSpec.ofChange fnQuotedEscapeIsTransparentSpec)

/-- ITS FALSE NEIGHBOUR: 'it returns false'. Refute it at one input. -/
def fnQuotedEscapeIsTransparentWrong : ChangeSpec := { name := "fnQuotedEscapeIsTransparent", fn := fun _ => fun
  | [d1, d2, d3, d4, d5, d6, d7, d8, d9, d10, d11] => { results := [.lit (.bool false)], args := [d1, d2, d3, d4, d5, d6, d7, d8, d9, d10, d11] }
  | _ => none }
def FnQuotedEscapeIsTransparentWrongFalsely : Prop := fnQuotedEscapeIsTransparentRow.holds Try.pinned (OpenSpec.ofChange fnQuotedEscapeIsTransparentWrong)

/-- 'zzlaws_root_b1.FnQuotedScriptKeepsFrame': WHATEVER THE INPUT: true; the input reads as it did. -/
def fnQuotedScriptKeepsFrameSpec : ChangeSpec := { name := "fnQuotedScriptKeepsFrame", fn := fun _ => fun
  | [d1, d2, d3, d4, d5, d6, d7, d8, d9, d10] => { results := [.lit (.bool true)], args := [d1, d2, d3, d4, d5, d6, d7, d8, d9, d10] }
  | _ => none }
def fnQuotedScriptKeepsFrameRow : OpenClaim := { program := "qxb6602033a", sum := "e12ac9d93022f607e9378dd9b1da85f9aac9d348dd92c34e7370b0dcfcd5cafd", func := "example.com/ermine/ermine/zzlaws_root_b1.FnQuotedScriptKeepsFrame", spec := "fnQuotedScriptKeepsFrame", apart := false }
def FnQuotedScriptKeepsFrameSaid : Prop := fnQuotedScriptKeepsFrameRow.holds Try.pinned (OpenSpec.ofChange fnQuotedScriptKeepsFrameSpec)

/-- ITS FALSE NEIGHBOUR: 'it returns false'. Refute it at one input. -/
def fnQuotedScriptKeepsFrameWrong : ChangeSpec := { name := "fnQuotedScriptKeepsFrame", fn := fun _ => fun
  | [d1, d2, d3, d4, d5, d6, d7, d8, d9, d10] => { results := [.lit (.bool false)], args := [d1, d2, d3, d4, d5, d6, d7, d8, d9, d10] }
  | _ => none }
def FnQuotedScriptKeepsFrameWrongFalsely : Prop := fnQuotedScriptKeepsFrameRow.holds Try.pinned (OpenSpec.ofChange fnQuotedScriptKeepsFrameWrong)

/-- 'zzlaws_root_b1.FnRegexpFieldByField': WHATEVER THE INPUT: true; the input reads as it did. -/
def fnRegexpFieldByFieldSpec : ChangeSpec := { name := "fnRegexpFieldByField", fn := fun _ => fun
  | [d1, d2, d3, d4, d5, d6, d7, d8, d9, d10] => { results := [.lit (.bool true)], args := [d1, d2, d3, d4, d5, d6, d7, d8, d9, d10] }
  | _ => none }
def fnRegexpFieldByFieldRow : OpenClaim := { program := "qxb6602033a", sum := "e12ac9d93022f607e9378dd9b1da85f9aac9d348dd92c34e7370b0dcfcd5cafd", func := "example.com/ermine/ermine/zzlaws_root_b1.FnRegexpFieldByField", spec := "fnRegexpFieldByField", apart := false }
def FnRegexpFieldByFieldSaid : Prop := fnRegexpFieldByFieldRow.holds Try.pinned (OpenSpec.ofChange fnRegexpFieldByFieldSpec)

/-- ITS FALSE NEIGHBOUR: 'it returns false'. Refute it at one input. -/
def fnRegexpFieldByFieldWrong : ChangeSpec := { name := "fnRegexpFieldByField", fn := fun _ => fun
  | [d1, d2, d3, d4, d5, d6, d7, d8, d9, d10] => { results := [.lit (.bool false)], args := [d1, d2, d3, d4, d5, d6, d7, d8, d9, d10] }
  | _ => none }
def FnRegexpFieldByFieldWrongFalsely : Prop := fnRegexpFieldByFieldRow.holds Try.pinned (OpenSpec.ofChange fnRegexpFieldByFieldWrong)

/-- 'zzlaws_root_b1.FnRegexpEscapeIsTransparent': WHATEVER THE INPUT: true; the input reads as it did. -/
def fnRegexpEscapeIsTransparentSpec : ChangeSpec := { name := "fnRegexpEscapeIsTransparent", fn := fun _ => fun
  | [d1, d2, d3, d4, d5, d6, d7, d8, d9, d10] => { results := [.lit (.bool true)], args := [d1, d2, d3, d4, d5, d6, d7, d8, d9, d10] }
  | _ => none }
def fnRegexpEscapeIsTransparentRow : OpenClaim := { program := "qxb6602033a", sum := "e12ac9d93022f607e9378dd9b1da85f9aac9d348dd92c34e7370b0dcfcd5cafd", func := "example.com/ermine/ermine/zzlaws_root_b1.FnRegexpEscapeIsTransparent", spec := "fnRegexpEscapeIsTransparent", apart := false }
def FnRegexpEscapeIsTransparentSaid : Prop := fnRegexpEscapeIsTransparentRow.holds Try.pinned (OpenSpec.ofChange fnRegexpEscapeIsTransparentSpec)

/-- ITS FALSE NEIGHBOUR: 'it returns false'. Refute it at one input. -/
def fnRegexpEscapeIsTransparentWrong : ChangeSpec := { name := "fnRegexpEscapeIsTransparent", fn := fun _ => fun
  | [d1, d2, d3, d4, d5, d6, d7, d8, d9, d10] => { results := [.lit (.bool false)], args := [d1, d2, d3, d4, d5, d6, d7, d8, d9, d10] }
  | _ => none }
def FnRegexpEscapeIsTransparentWrongFalsely : Prop := fnRegexpEscapeIsTransparentRow.holds Try.pinned (OpenSpec.ofChange fnRegexpEscapeIsTransparentWrong)

/-- 'zzlaws_root_b1.FnRegexpScriptKeepsFrame': WHATEVER THE INPUT: true; the input reads as it did. -/
def fnRegexpScriptKeepsFrameSpec : ChangeSpec := { name := "fnRegexpScriptKeepsFrame", fn := fun _ => fun
  | [d1, d2, d3, d4, d5, d6, d7, d8, d9, d10] => { results := [.lit (.bool true)], args := [d1, d2, d3, d4, d5, d6, d7, d8, d9, d10] }
  | _ => none }
def fnRegexpScriptKeepsFrameRow : OpenClaim := { program := "qxb6602033a", sum := "e12ac9d93022f607e9378dd9b1da85f9aac9d348dd92c34e7370b0dcfcd5cafd", func := "example.com/ermine/ermine/zzlaws_root_b1.FnRegexpScriptKeepsFrame", spec := "fnRegexpScriptKeepsFrame", apart := false }
def FnRegexpScriptKeepsFrameSaid : Prop := fnRegexpScriptKeepsFrameRow.holds Try.pinned (OpenSpec.ofChange fnRegexpScriptKeepsFrameSpec)

/-- ITS FALSE NEIGHBOUR: 'it returns false'. Refute it at one input. -/
def fnRegexpScriptKeepsFrameWrong : ChangeSpec := { name := "fnRegexpScriptKeepsFrame", fn := fun _ => fun
  | [d1, d2, d3, d4, d5, d6, d7, d8, d9, d10] => { results := [.lit (.bool false)], args := [d1, d2, d3, d4, d5, d6, d7, d8, d9, d10] }
  | _ => none }
def FnRegexpScriptKeepsFrameWrongFalsely : Prop := fnRegexpScriptKeepsFrameRow.holds Try.pinned (OpenSpec.ofChange fnRegexpScriptKeepsFrameWrong)

end Rows
end Go.Proofs.Qxb6602033a
