/- A proof of 'Rows.FnCandidateAfterNeverLosesAValidPlaceSaid'. The frame is the guide's shell; the walk is our own. -/
import Derived.Test.Qxb6602033aRows
import Derived.WalkKit
import Derived.ProofKit
import Derived.OpenShut
import Derived.ShutString
import Derived.Test.Qxb6602033aCandB
namespace Go.Proofs.Qxb6602033a.fnCandidateAfterNeverLosesAValidPlace
open Go.ChangeShapes Go.WideShapes Go.ChangeAt Go.RowKit
open Go.ChangeMaps (open_string shut_string)
set_option linter.unusedVariables false      -- a walk need not use every 'w<i>' (that an integer argument fits its kind)

theorem own : ownKnob Try.prog.godebug = none := by kernel_rfl

/-! ### STEP 1: THE WALK: the Go text returns true. 'Grown w w'': the world has at most new blocks (Derived/RowKit3.lean). Part the cases AHEAD of 'go_enter' where a test parts the walk; take each callee by a contract of your own. -/
theorem walk (a0 : Int) (a1 : Int) (w0 : (Lit.int .u8 a0).wf = true) (w1 : (Lit.int .i32 a1).wf = true) (w : World) :
    Calls Try.prog 5 #[.int .u8 a0, .int .i32 a1] w fun e w' => e = .returned (.bool true) ∧ Grown w w' := by
  have hp : 0 ≤ a0 ∧ a0 ≤ 255 := by simp [Lit.wf, IntKind.min, IntKind.max, IntKind.signed, IntKind.bits] at w0; omega
  obtain ⟨f1, f2, f3, f4⟩ := Cand.fine_facts a0 a1 hp.1 hp.2
  clear w0 w1 hp
  by_cases hv : bits .and .u8 a0 31 = 0
  · clear f3 f4
    rw [hv] at f2
    go_enter Try.func5, Try.ntmps5
    go_wp2_with (go_at_call 13; refine (Cand.zzAfter_any _ _ _).mono ?_; rintro e w' ⟨rfl, rfl⟩)
    go_ret
    exact ⟨rfl, Grown.refl _⟩
  have g3 := f3 hv
  have hv1 : (bits .and .u8 a0 31 != 0) = true := by simpa using hv
  have g31 : (Cand.aftC a0 (Cand.spc a1) (a1 == 44) (a1 == 40) (a1 == 41) == 0) = false := by simpa using g3
  by_cases hu : bits .and .u8 (bits .and .u8 a0 31) ((bits .and .u8 a0 31 - 1) % 256) = 0
  · have g4 := f4 hv hu
    clear f3 f4 hv g3
    go_enter Try.func5, Try.ntmps5
    go_wp2_with (go_at_call 13; refine (Cand.zzAfter_any _ _ _).mono ?_; rintro e w' ⟨rfl, rfl⟩)
    go_ret
    exact ⟨rfl, Grown.refl _⟩
  · have hu1 : (bits .and .u8 (bits .and .u8 a0 31) ((bits .and .u8 a0 31 - 1) % 256) == 0) = false := by simpa using hu
    clear f3 f4 hv g3 hu
    go_enter Try.func5, Try.ntmps5
    go_wp2_with (go_at_call 13; refine (Cand.zzAfter_any _ _ _).mono ?_; rintro e w' ⟨rfl, rfl⟩)
    go_ret
    exact ⟨rfl, Grown.refl _⟩

/-! ### THE ROW's STEP: WRITTEN OUT: LEAVE IT -/
set_option maxRecDepth 100000 in
theorem lifted (os : Os) (started : os.Started) (H : Type) (enc : TypeId × Value → H) :
    ReturnsInHanded {} Try.checked os 5 .any (Rows.fnCandidateAfterNeverLosesAValidPlaceSpec.pre6 enc Try.prog Try.f5 Rows.fnCandidateAfterNeverLosesAValidPlaceRow.domain false) (Rows.fnCandidateAfterNeverLosesAValidPlaceSpec.post enc Try.prog Try.f5 false true false false) := by
  refine returnsInHanded_of_change (C := Try.checked) own started (by kernel_rfl) Try.func5
    (ChangeSpec.witness6 (enc := enc) (C := Try.checked) false ⟨#[], #[.int .u8 0, .int .i32 0], []⟩ 8 (by kernel_rfl) (by kernel_rfl) (by kernel_rfl) (by kernel_rfl)) ?_
  intro W base args ds gs before hval0 hW hcnd _
  have hval : ∀ (j : Nat) t v, Try.f5.params[j]? = some t → args[j]? = some v → Value.okWide Try.prog W .any base t v := hval0
  have hW' := hW
  obtain ⟨p, q, hA0, hV, rfl, hfz, hnd⟩ := hW
  have hA : DataW.TrodAll enc Try.prog W 0 (fun _ => true) true Try.f5.params.toList args.toList ds p := hA0
  rw [Try.params5] at hA hval
  obtain ⟨v0, vs0, d0, ds0, p0, q0, hargs, rfl, rfl, h0, r0⟩ := trodAll_cons hA
  obtain ⟨v1, vs1, d1, ds1, p1, q1, rfl, rfl, rfl, h1, r1⟩ := trodAll_cons r0
  obtain ⟨rfl, rfl, rfl⟩ := trodAll_nil r1
  obtain rfl : args = #[v0, v1] := by cases args; simp_all
  obtain ⟨rfl, rfl⟩ := trodVars_none hV
  obtain ⟨a0, rfl, rfl, rfl, w0⟩ := open_int Try.underlying5 (hval 0 5 v0 rfl rfl) h0
  obtain ⟨a1, rfl, rfl, rfl, w1⟩ := open_int Try.underlying21 (hval 1 21 v1 rfl rfl) h1
  clear hA0 hval0
  simp only [List.append_nil] at hW'
  refine (walk a0 a1 w0 w1 W).mono fun e W' ⟨he, hg⟩ => ?_
  subst he
  exact ⟨_, rfl, post_of_same (pa := []) (pv := []) hW' (fun _ _ _ => (trodAll_cons_mk (shut_bool Try.underlying4 _) trodAll_mk0)) (fun sp _ => (trodAll_cons_mk (shut_int Try.underlying5 w0) (trodAll_cons_mk (shut_int Try.underlying21 w1) trodAll_mk0))) (fun _ _ => rfl) rfl
    (hg.frame _) hg.2.1 (ok_one (by kernel_rfl) rfl (okWide_bool_mk Try.underlying4 _))⟩

theorem over : Rows.fnCandidateAfterNeverLosesAValidPlaceRow.holds Try.pinned (OpenSpec.ofChange Rows.fnCandidateAfterNeverLosesAValidPlaceSpec) :=
  OpenClaim.holds_of_wide 5 Try.f5 rfl rfl rfl rfl rfl rfl rfl ⟨rfl, rfl, rfl, rfl, rfl⟩ rfl rfl rfl rfl rfl (by kernel_rfl) Try.func5 (by kernel_rfl)
    (of_decide_eq_true (by kernel_rfl)) (by unfold Func.isWrapper; first | (rw [if_pos (by decide +kernel)]; kernel_rfl) | (rw [if_neg (by decide +kernel)]; exact ⟨rfl, rfl⟩))
    (fun os started H enc _ => lifted os started H enc)

/-- ████ THE STATEMENT ████ -/
theorem proved : Rows.FnCandidateAfterNeverLosesAValidPlaceSaid :=
  over
end Go.Proofs.Qxb6602033a.fnCandidateAfterNeverLosesAValidPlace
