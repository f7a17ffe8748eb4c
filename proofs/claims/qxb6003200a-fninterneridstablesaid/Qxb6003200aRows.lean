/-
  No cell of these rows narrows 'for every input' (looked for: loops, veiled, ifaces, maps, wideKeys, modest, calm, conditions, laid).
  DERIVED. THE GIVEN ROWS OF THIS SEAT. 5 by the template 'for every input the law returns true; each argument reads behind the call as it read before'; 0 by the template 'total and deterministic' (their statements: Qxb6003200aTotals.lean).
  GIVEN WITH THE SEED: the statements are not yours to turn. If you find one false, say at which input.
  Laid BY PROGRAM, IN A SANDBOX (cutbox-rows.mjs): the forced cells as the released guide's own fill.sh prints them over the translation 92afbd6aeb1cc1e2… (all of the seat's roots in one cut). By AI agents, Wed Nov 11 2026. No macro, syntax, notation, axiom, sorry.
-/
import Derived.Test.Qxb6003200aChecked
import GoSem.Claim
import GoSem.ClaimJoined
import GoSem.ClaimMapViews
import Derived.JoinedTies
import Derived.KernelRfl
namespace Go.Proofs.Qxb6003200a
/- THE CELL 'sum', in the pinned program and in every row, IS THE sha256 OF THE DUMP (.gsa) THAT Qxb6003200aProg.lean LOADS. Nothing in Lean hashes anything: it is a label: what it is worth is what the hold of that sum in a sandbox is worth. -/
noncomputable def Try.pinned : Pinned := { name := "qxb6003200a", sum := "92afbd6aeb1cc1e27fa08194fa80dfde52e47388904ccb1c9cf9f82be5fdfc80", checked := Try.checked }
namespace Rows
def none {H : Type} : Left H := { results := [], args := [] }

/-- 'zzlaws_preserves_b1.FnSeparatorBuildsCompactJoin': WHATEVER THE INPUT: true; the input reads as it did. -/
def fnSeparatorBuildsCompactJoinSpec : ChangeSpec := { name := "fnSeparatorBuildsCompactJoin", fn := fun _ => fun
  | [d1, d2] => { results := [.lit (.bool true)], args := [d1, d2] }
  | _ => none }
def fnSeparatorBuildsCompactJoinRow : OpenClaim := { program := "qxb6003200a", sum := "92afbd6aeb1cc1e27fa08194fa80dfde52e47388904ccb1c9cf9f82be5fdfc80", func := "example.com/koeda/koeda/zzlaws_preserves_b1.FnSeparatorBuildsCompactJoin", spec := "fnSeparatorBuildsCompactJoin", apart := false }
def FnSeparatorBuildsCompactJoinSaid : Prop := fnSeparatorBuildsCompactJoinRow.holds Try.pinned (OpenSpec.ofChange fnSeparatorBuildsCompactJoinSpec)

/-- ITS FALSE NEIGHBOUR: 'it returns false'. Refute it at one input. -/
def fnSeparatorBuildsCompactJoinWrong : ChangeSpec := { name := "fnSeparatorBuildsCompactJoin", fn := fun _ => fun
  | [d1, d2] => { results := [.lit (.bool false)], args := [d1, d2] }
  | _ => none }
def FnSeparatorBuildsCompactJoinWrongFalsely : Prop := fnSeparatorBuildsCompactJoinRow.holds Try.pinned (OpenSpec.ofChange fnSeparatorBuildsCompactJoinWrong)

/-- 'zzlaws_preserves_b1.FnSeparatorEmptyAtStartAndOutsideCompounds': WHATEVER THE INPUT: true; the input reads as it did. -/
def fnSeparatorEmptyAtStartAndOutsideCompoundsSpec : ChangeSpec := { name := "fnSeparatorEmptyAtStartAndOutsideCompounds", fn := fun _ => fun
  | [d1, d2] => { results := [.lit (.bool true)], args := [d1, d2] }
  | _ => none }
def fnSeparatorEmptyAtStartAndOutsideCompoundsRow : OpenClaim := { program := "qxb6003200a", sum := "92afbd6aeb1cc1e27fa08194fa80dfde52e47388904ccb1c9cf9f82be5fdfc80", func := "example.com/koeda/koeda/zzlaws_preserves_b1.FnSeparatorEmptyAtStartAndOutsideCompounds", spec := "fnSeparatorEmptyAtStartAndOutsideCompounds", apart := false }
def FnSeparatorEmptyAtStartAndOutsideCompoundsSaid : Prop := fnSeparatorEmptyAtStartAndOutsideCompoundsRow.holds Try.pinned (OpenSpec.ofChange fnSeparatorEmptyAtStartAndOutsideCompoundsSpec)

/-- ITS FALSE NEIGHBOUR: 'it returns false'. Refute it at one input. -/
def fnSeparatorEmptyAtStartAndOutsideCompoundsWrong : ChangeSpec := { name := "fnSeparatorEmptyAtStartAndOutsideCompounds", fn := fun _ => fun
  | [d1, d2] => { results := [.lit (.bool false)], args := [d1, d2] }
  | _ => none }
def FnSeparatorEmptyAtStartAndOutsideCompoundsWrongFalsely : Prop := fnSeparatorEmptyAtStartAndOutsideCompoundsRow.holds Try.pinned (OpenSpec.ofChange fnSeparatorEmptyAtStartAndOutsideCompoundsWrong)

/-- 'zzlaws_preserves_b1.FnSeparatorPeriodicAfterStart': WHATEVER THE INPUT: true; the input reads as it did. -/
def fnSeparatorPeriodicAfterStartSpec : ChangeSpec := { name := "fnSeparatorPeriodicAfterStart", fn := fun _ => fun
  | [d1, d2] => { results := [.lit (.bool true)], args := [d1, d2] }
  | _ => none }
def fnSeparatorPeriodicAfterStartRow : OpenClaim := { program := "qxb6003200a", sum := "92afbd6aeb1cc1e27fa08194fa80dfde52e47388904ccb1c9cf9f82be5fdfc80", func := "example.com/koeda/koeda/zzlaws_preserves_b1.FnSeparatorPeriodicAfterStart", spec := "fnSeparatorPeriodicAfterStart", apart := false }
def FnSeparatorPeriodicAfterStartSaid : Prop := fnSeparatorPeriodicAfterStartRow.holds Try.pinned (OpenSpec.ofChange fnSeparatorPeriodicAfterStartSpec)

/-- ITS FALSE NEIGHBOUR: 'it returns false'. Refute it at one input. -/
def fnSeparatorPeriodicAfterStartWrong : ChangeSpec := { name := "fnSeparatorPeriodicAfterStart", fn := fun _ => fun
  | [d1, d2] => { results := [.lit (.bool false)], args := [d1, d2] }
  | _ => none }
def FnSeparatorPeriodicAfterStartWrongFalsely : Prop := fnSeparatorPeriodicAfterStartRow.holds Try.pinned (OpenSpec.ofChange fnSeparatorPeriodicAfterStartWrong)

/-- 'zzlaws_preserves_b1.FnInternerIDFirstAppearance': WHATEVER THE INPUT: true; the input reads as it did. -/
def fnInternerIDFirstAppearanceSpec : ChangeSpec := { name := "fnInternerIDFirstAppearance", fn := fun _ => fun
  | [d] => { results := [.lit (.bool true)], args := [d] }
  | _ => none }
def fnInternerIDFirstAppearanceRow : OpenClaim := { program := "qxb6003200a", sum := "92afbd6aeb1cc1e27fa08194fa80dfde52e47388904ccb1c9cf9f82be5fdfc80", func := "example.com/koeda/koeda/zzlaws_preserves_b1.FnInternerIDFirstAppearance", spec := "fnInternerIDFirstAppearance", apart := false }
def FnInternerIDFirstAppearanceSaid : Prop := fnInternerIDFirstAppearanceRow.holds Try.pinned (OpenSpec.ofChange fnInternerIDFirstAppearanceSpec)

/-- ITS FALSE NEIGHBOUR: 'it returns false'. Refute it at one input. -/
def fnInternerIDFirstAppearanceWrong : ChangeSpec := { name := "fnInternerIDFirstAppearance", fn := fun _ => fun
  | [d] => { results := [.lit (.bool false)], args := [d] }
  | _ => none }
def FnInternerIDFirstAppearanceWrongFalsely : Prop := fnInternerIDFirstAppearanceRow.holds Try.pinned (OpenSpec.ofChange fnInternerIDFirstAppearanceWrong)

/-- 'zzlaws_preserves_b1.FnInternerIDStable': WHATEVER THE INPUT: true; the input reads as it did. -/
def fnInternerIDStableSpec : ChangeSpec := { name := "fnInternerIDStable", fn := fun _ => fun
  | [d1, d2] => { results := [.lit (.bool true)], args := [d1, d2] }
  | _ => none }
def fnInternerIDStableRow : OpenClaim := { program := "qxb6003200a", sum := "92afbd6aeb1cc1e27fa08194fa80dfde52e47388904ccb1c9cf9f82be5fdfc80", func := "example.com/koeda/koeda/zzlaws_preserves_b1.FnInternerIDStable", spec := "fnInternerIDStable", apart := false }
def FnInternerIDStableSaid : Prop := fnInternerIDStableRow.holds Try.pinned (OpenSpec.ofChange fnInternerIDStableSpec)

/-- ITS FALSE NEIGHBOUR: 'it returns false'. Refute it at one input. -/
def fnInternerIDStableWrong : ChangeSpec := { name := "fnInternerIDStable", fn := fun _ => fun
  | [d1, d2] => { results := [.lit (.bool false)], args := [d1, d2] }
  | _ => none }
def FnInternerIDStableWrongFalsely : Prop := fnInternerIDStableRow.holds Try.pinned (OpenSpec.ofChange fnInternerIDStableWrong)

end Rows
end Go.Proofs.Qxb6003200a
