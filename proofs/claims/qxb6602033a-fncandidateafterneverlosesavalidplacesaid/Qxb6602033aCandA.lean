import Derived.Test.Qxb6602033aRows
import Derived.WalkKit
import Derived.Deep.DeepCutAuto
import Derived.RowKit3
import Derived.Deep.Light
namespace Go.Proofs.Qxb6602033a.Cand
open Go.RowKit
set_option linter.unusedVariables false

/-- HTML whitespace. -/
def spc (r : Int) : Bool := r == 32 || r == 9 || r == 10 || r == 12 || r == 13

set_option maxHeartbeats 400000 in
theorem isSpace_any (r : Int) (w : World) :
    Calls Try.prog 30 #[.int .i32 r] w fun e w' => e = .returned (.bool (spc r)) ∧ w = w' := by
  go_enter Try.func30, Try.ntmps30
  go_wp2
  all_goals (go_ret; exact ⟨by simp [spc, *], rfl⟩)

theorem inURL_any (p : Int) (w : World) :
    Calls Try.prog 31 #[.int .u8 p] w fun e w' => e = .returned (.bool (bits .and .u8 p 6 != 0)) ∧ w = w' := by
  go_enter Try.func31, Try.ntmps31
  go_wp2
  go_ret
  exact ⟨rfl, rfl⟩

def n1 (p : Int) (s c : Bool) : Int := if (bits .and .u8 p 1 != 0) = true then (if (s || c) = true then bits .or .u8 0 1 else bits .or .u8 0 2) else 0
def n2 (p : Int) (s c : Bool) (n : Int) : Int := if (bits .and .u8 p 6 != 0) = true then (if c = true then bits .or .u8 n 4 else if s = true then n else bits .or .u8 n 2) else n
def n3 (p : Int) (s : Bool) (n : Int) : Int := if (s && bits .and .u8 p 2 != 0) = true then bits .or .u8 n 8 else n
def n4 (p : Int) (s : Bool) (n : Int) : Int := if (s && bits .and .u8 p 4 != 0) = true then bits .or .u8 n 1 else n
def n5 (p : Int) (c l : Bool) (n : Int) : Int := if (bits .and .u8 p 8 != 0) = true then (if c = true then bits .or .u8 n 1 else if l = true then bits .or .u8 n 16 else bits .or .u8 n 8) else n
def n6 (p : Int) (g : Bool) (n : Int) : Int := if (bits .and .u8 p 16 != 0) = true then (if g = true then bits .or .u8 n 8 else bits .or .u8 n 16) else n
/-- (candidatePlaces).after, the character told by its kind alone. -/
def aftC (p : Int) (s c l g : Bool) : Int := n6 p g (n5 p c l (n4 p s (n3 p s (n2 p s c (n1 p s c)))))

set_option maxRecDepth 20000 in
set_option maxHeartbeats 4000000 in
theorem after_any (p r : Int) (w : World) :
    Calls Try.prog 25 #[.int .u8 p, .int .i32 r] w fun e w' => e = .returned (.int .u8 (aftC p (spc r) (r == 44) (r == 40) (r == 41))) ∧ w = w' := by
  go_enter Try.func25, Try.ntmps25
  go_upto_region 3 with (first | (go_at_call 30; refine (isSpace_any _ _).mono ?_; rintro e w' ⟨rfl, rfl⟩) | (go_at_call 31; refine (inURL_any _ _).mono ?_; rintro e w' ⟨rfl, rfl⟩))
  go_cut [0, 1, 5, 6, 7, 20] (fun v0 v1 v5 v6 v7 vt wx => v0 = .int .u8 p ∧ v1 = .int .i32 r ∧ v5 = .bool (spc r) ∧ v6 = .bool (r == 44) ∧ v7 = .int .u8 0 ∧ vt = .bool (bits .and .u8 p 1 != 0 && (spc r || r == 44)) ∧ w = wx)
  case first =>
    go_wp2_with (first | (go_at_call 30; refine (isSpace_any _ _).mono ?_; rintro e w' ⟨rfl, rfl⟩) | (go_at_call 31; refine (inURL_any _ _).mono ?_; rintro e w' ⟨rfl, rfl⟩))
    all_goals go_meet
    all_goals (go_light; exact ⟨by simp [*], by simp [*], by simp [*], by simp [*], by simp [*], by simp [*], rfl⟩)
  obtain ⟨rfl, rfl, rfl, rfl, rfl, rfl, rfl⟩ := hcut
  go_upto_if 20 with fail
  go_cut [0, 1, 5, 6, 7] (fun v0 v1 v5 v6 v7 wx => v0 = .int .u8 p ∧ v1 = .int .i32 r ∧ v5 = .bool (spc r) ∧ v6 = .bool (r == 44) ∧ v7 = .int .u8 (n1 p (spc r) (r == 44)) ∧ w = wx)
  case first =>
    go_wp2_with (first | (go_at_call 30; refine (isSpace_any _ _).mono ?_; rintro e w' ⟨rfl, rfl⟩) | (go_at_call 31; refine (inURL_any _ _).mono ?_; rintro e w' ⟨rfl, rfl⟩))
    all_goals go_meet
    all_goals (go_light; exact ⟨by simp [*], by simp [*], by simp [*], by simp [*], by simp_all [n1], rfl⟩)
  obtain ⟨rfl, rfl, rfl, rfl, rfl, rfl⟩ := hcut
  go_upto_region 7 with (first | (go_at_call 30; refine (isSpace_any _ _).mono ?_; rintro e w' ⟨rfl, rfl⟩) | (go_at_call 31; refine (inURL_any _ _).mono ?_; rintro e w' ⟨rfl, rfl⟩))
  go_cut [0, 1, 5, 6, 7, 32] (fun v0 v1 v5 v6 v7 vt wx => v0 = .int .u8 p ∧ v1 = .int .i32 r ∧ v5 = .bool (spc r) ∧ v6 = .bool (r == 44) ∧ v7 = .int .u8 (n1 p (spc r) (r == 44)) ∧ vt = .bool (bits .and .u8 p 6 != 0 && r == 44) ∧ w = wx)
  case first =>
    go_wp2_with (first | (go_at_call 30; refine (isSpace_any _ _).mono ?_; rintro e w' ⟨rfl, rfl⟩) | (go_at_call 31; refine (inURL_any _ _).mono ?_; rintro e w' ⟨rfl, rfl⟩))
    all_goals go_meet
    all_goals (go_light; exact ⟨by simp [*], by simp [*], by simp [*], by simp [*], by simp [*], by simp [*], rfl⟩)
  obtain ⟨rfl, rfl, rfl, rfl, rfl, rfl, rfl⟩ := hcut
  go_upto_if 32 with fail
  go_cut [0, 1, 5, 6, 7] (fun v0 v1 v5 v6 v7 wx => v0 = .int .u8 p ∧ v1 = .int .i32 r ∧ v5 = .bool (spc r) ∧ v6 = .bool (r == 44) ∧ v7 = .int .u8 (n2 p (spc r) (r == 44) (n1 p (spc r) (r == 44))) ∧ w = wx)
  case first =>
    go_wp2_with (first | (go_at_call 30; refine (isSpace_any _ _).mono ?_; rintro e w' ⟨rfl, rfl⟩) | (go_at_call 31; refine (inURL_any _ _).mono ?_; rintro e w' ⟨rfl, rfl⟩))
    all_goals go_meet
    all_goals (go_light; exact ⟨by simp [*], by simp [*], by simp [*], by simp [*], by simp_all [n2], rfl⟩)
  obtain ⟨rfl, rfl, rfl, rfl, rfl, rfl⟩ := hcut
  go_upto_region 11 with (first | (go_at_call 30; refine (isSpace_any _ _).mono ?_; rintro e w' ⟨rfl, rfl⟩) | (go_at_call 31; refine (inURL_any _ _).mono ?_; rintro e w' ⟨rfl, rfl⟩))
  go_cut [0, 1, 5, 6, 7, 48] (fun v0 v1 v5 v6 v7 vt wx => v0 = .int .u8 p ∧ v1 = .int .i32 r ∧ v5 = .bool (spc r) ∧ v6 = .bool (r == 44) ∧ v7 = .int .u8 (n2 p (spc r) (r == 44) (n1 p (spc r) (r == 44))) ∧ vt = .bool (spc r && bits .and .u8 p 2 != 0) ∧ w = wx)
  case first =>
    go_wp2_with (first | (go_at_call 30; refine (isSpace_any _ _).mono ?_; rintro e w' ⟨rfl, rfl⟩) | (go_at_call 31; refine (inURL_any _ _).mono ?_; rintro e w' ⟨rfl, rfl⟩))
    all_goals go_meet
    all_goals (go_light; exact ⟨by simp [*], by simp [*], by simp [*], by simp [*], by simp [*], by simp [*], rfl⟩)
  obtain ⟨rfl, rfl, rfl, rfl, rfl, rfl, rfl⟩ := hcut
  go_upto_if 48 with fail
  go_cut [0, 1, 5, 6, 7] (fun v0 v1 v5 v6 v7 wx => v0 = .int .u8 p ∧ v1 = .int .i32 r ∧ v5 = .bool (spc r) ∧ v6 = .bool (r == 44) ∧ v7 = .int .u8 (n3 p (spc r) (n2 p (spc r) (r == 44) (n1 p (spc r) (r == 44)))) ∧ w = wx)
  case first =>
    go_wp2_with (first | (go_at_call 30; refine (isSpace_any _ _).mono ?_; rintro e w' ⟨rfl, rfl⟩) | (go_at_call 31; refine (inURL_any _ _).mono ?_; rintro e w' ⟨rfl, rfl⟩))
    all_goals go_meet
    all_goals (go_light; exact ⟨by simp [*], by simp [*], by simp [*], by simp [*], by first | (simp_all [n3]; done) | (rename_i h; rcases h with h | h <;> simp [n3, h]), rfl⟩)
  obtain ⟨rfl, rfl, rfl, rfl, rfl, rfl⟩ := hcut
  go_upto_region 13 with (first | (go_at_call 30; refine (isSpace_any _ _).mono ?_; rintro e w' ⟨rfl, rfl⟩) | (go_at_call 31; refine (inURL_any _ _).mono ?_; rintro e w' ⟨rfl, rfl⟩))
  go_cut [0, 1, 5, 6, 7, 56] (fun v0 v1 v5 v6 v7 vt wx => v0 = .int .u8 p ∧ v1 = .int .i32 r ∧ v5 = .bool (spc r) ∧ v6 = .bool (r == 44) ∧ v7 = .int .u8 (n3 p (spc r) (n2 p (spc r) (r == 44) (n1 p (spc r) (r == 44)))) ∧ vt = .bool (spc r && bits .and .u8 p 4 != 0) ∧ w = wx)
  case first =>
    go_wp2_with (first | (go_at_call 30; refine (isSpace_any _ _).mono ?_; rintro e w' ⟨rfl, rfl⟩) | (go_at_call 31; refine (inURL_any _ _).mono ?_; rintro e w' ⟨rfl, rfl⟩))
    all_goals go_meet
    all_goals (go_light; exact ⟨by simp [*], by simp [*], by simp [*], by simp [*], by simp [*], by simp [*], rfl⟩)
  obtain ⟨rfl, rfl, rfl, rfl, rfl, rfl, rfl⟩ := hcut
  go_upto_if 56 with fail
  go_cut [0, 1, 5, 6, 7] (fun v0 v1 v5 v6 v7 wx => v0 = .int .u8 p ∧ v1 = .int .i32 r ∧ v5 = .bool (spc r) ∧ v6 = .bool (r == 44) ∧ v7 = .int .u8 (n4 p (spc r) (n3 p (spc r) (n2 p (spc r) (r == 44) (n1 p (spc r) (r == 44))))) ∧ w = wx)
  case first =>
    go_wp2_with (first | (go_at_call 30; refine (isSpace_any _ _).mono ?_; rintro e w' ⟨rfl, rfl⟩) | (go_at_call 31; refine (inURL_any _ _).mono ?_; rintro e w' ⟨rfl, rfl⟩))
    all_goals go_meet
    all_goals (go_light; exact ⟨by simp [*], by simp [*], by simp [*], by simp [*], by first | (simp_all [n4]; done) | (rename_i h; rcases h with h | h <;> simp [n4, h]), rfl⟩)
  obtain ⟨rfl, rfl, rfl, rfl, rfl, rfl⟩ := hcut
  go_upto_region 15 with (first | (go_at_call 30; refine (isSpace_any _ _).mono ?_; rintro e w' ⟨rfl, rfl⟩) | (go_at_call 31; refine (inURL_any _ _).mono ?_; rintro e w' ⟨rfl, rfl⟩))
  go_cut [0, 1, 5, 6, 7, 64] (fun v0 v1 v5 v6 v7 vt wx => v0 = .int .u8 p ∧ v1 = .int .i32 r ∧ v5 = .bool (spc r) ∧ v6 = .bool (r == 44) ∧ v7 = .int .u8 (n4 p (spc r) (n3 p (spc r) (n2 p (spc r) (r == 44) (n1 p (spc r) (r == 44))))) ∧ vt = .bool (bits .and .u8 p 8 != 0 && r == 44) ∧ w = wx)
  case first =>
    go_wp2_with (first | (go_at_call 30; refine (isSpace_any _ _).mono ?_; rintro e w' ⟨rfl, rfl⟩) | (go_at_call 31; refine (inURL_any _ _).mono ?_; rintro e w' ⟨rfl, rfl⟩))
    all_goals go_meet
    all_goals (go_light; exact ⟨by simp [*], by simp [*], by simp [*], by simp [*], by simp [*], by simp [*], rfl⟩)
  obtain ⟨rfl, rfl, rfl, rfl, rfl, rfl, rfl⟩ := hcut
  go_upto_if 64 with fail
  go_cut [0, 1, 5, 6, 7] (fun v0 v1 v5 v6 v7 wx => v0 = .int .u8 p ∧ v1 = .int .i32 r ∧ v5 = .bool (spc r) ∧ v6 = .bool (r == 44) ∧ v7 = .int .u8 (n5 p (r == 44) (r == 40) (n4 p (spc r) (n3 p (spc r) (n2 p (spc r) (r == 44) (n1 p (spc r) (r == 44)))))) ∧ w = wx)
  case first =>
    go_wp2_with (first | (go_at_call 30; refine (isSpace_any _ _).mono ?_; rintro e w' ⟨rfl, rfl⟩) | (go_at_call 31; refine (inURL_any _ _).mono ?_; rintro e w' ⟨rfl, rfl⟩))
    all_goals go_meet
    all_goals (go_light; exact ⟨by simp [*], by simp [*], by simp [*], by simp [*], by simp_all [n5], rfl⟩)
  obtain ⟨rfl, rfl, rfl, rfl, rfl, rfl⟩ := hcut
  go_upto_region 21 with (first | (go_at_call 30; refine (isSpace_any _ _).mono ?_; rintro e w' ⟨rfl, rfl⟩) | (go_at_call 31; refine (inURL_any _ _).mono ?_; rintro e w' ⟨rfl, rfl⟩))
  go_cut [0, 1, 5, 6, 7, 87] (fun v0 v1 v5 v6 v7 vt wx => v0 = .int .u8 p ∧ v1 = .int .i32 r ∧ v5 = .bool (spc r) ∧ v6 = .bool (r == 44) ∧ v7 = .int .u8 (n5 p (r == 44) (r == 40) (n4 p (spc r) (n3 p (spc r) (n2 p (spc r) (r == 44) (n1 p (spc r) (r == 44)))))) ∧ vt = .bool (bits .and .u8 p 16 != 0 && r == 41) ∧ w = wx)
  case first =>
    go_wp2_with (first | (go_at_call 30; refine (isSpace_any _ _).mono ?_; rintro e w' ⟨rfl, rfl⟩) | (go_at_call 31; refine (inURL_any _ _).mono ?_; rintro e w' ⟨rfl, rfl⟩))
    all_goals go_meet
    all_goals (go_light; exact ⟨by simp [*], by simp [*], by simp [*], by simp [*], by simp [*], by simp [*], rfl⟩)
  obtain ⟨rfl, rfl, rfl, rfl, rfl, rfl, rfl⟩ := hcut
  go_upto_if 87 with fail
  go_cut [0, 1, 5, 6, 7] (fun v0 v1 v5 v6 v7 wx => v0 = .int .u8 p ∧ v1 = .int .i32 r ∧ v5 = .bool (spc r) ∧ v6 = .bool (r == 44) ∧ v7 = .int .u8 (n6 p (r == 41) (n5 p (r == 44) (r == 40) (n4 p (spc r) (n3 p (spc r) (n2 p (spc r) (r == 44) (n1 p (spc r) (r == 44))))))) ∧ w = wx)
  case first =>
    go_wp2_with (first | (go_at_call 30; refine (isSpace_any _ _).mono ?_; rintro e w' ⟨rfl, rfl⟩) | (go_at_call 31; refine (inURL_any _ _).mono ?_; rintro e w' ⟨rfl, rfl⟩))
    all_goals go_meet
    all_goals (go_light; exact ⟨by simp [*], by simp [*], by simp [*], by simp [*], by simp_all [n6], rfl⟩)
  obtain ⟨rfl, rfl, rfl, rfl, rfl, rfl⟩ := hcut
  go_wp2
  go_ret
  exact ⟨rfl, rfl⟩
end Go.Proofs.Qxb6602033a.Cand
