import Derived.Test.Qxb6602033aCandB
namespace Go.Proofs.Qxb6602033a.Cand
open Go.RowKit
set_option linter.unusedVariables false

theorem srcsetSpace_any (r : Int) (w : World) :
    Calls Try.prog 24 #[.int .i32 r] w fun e w' => e = .returned (.bool (spc r)) ∧ w = w' := by
  go_enter Try.func24, Try.ntmps24
  go_wp2
  all_goals (go_ret; exact ⟨by simp [spc, *], rfl⟩)

/-- Where one place goes. -/
def stp (q : Int) (s c l g : Bool) : Int :=
  if (q == 1) = true then (if (s || c) = true then 1 else 2)
  else if (q == 2) = true then (if c = true then 4 else if s = true then 8 else 2)
  else if (q == 4) = true then (if c = true then 4 else if s = true then 1 else 2)
  else if (q == 8) = true then (if c = true then 1 else if l = true then 16 else 8)
  else if (q == 16) = true then (if g = true then 8 else 16)
  else 0

set_option maxHeartbeats 1000000 in
theorem step_any (q r : Int) (w : World) :
    Calls Try.prog 12 #[.int .u8 q, .int .i32 r] w fun e w' => e = .returned (.int .u8 (stp q (spc r) (r == 44) (r == 40) (r == 41))) ∧ w = w' := by
  go_enter Try.func12, Try.ntmps12
  go_wp2_with (go_at_call 24; refine (srcsetSpace_any _ _).mono ?_; rintro e w' ⟨rfl, rfl⟩)
  all_goals (go_ret; exact ⟨by simp only [stp]; simp only [*, if_true, if_false, Bool.or_true, Bool.true_or, Bool.or_false, Bool.false_eq_true]; try rfl, rfl⟩)

/-- The bit of round k. -/
def bitAt (k : Nat) : Int := ((2 ^ k % 256 : Nat) : Int)
/-- What has been gathered after k rounds. -/
def gath (p : Int) (s c l g : Bool) : Nat → Int
  | 0 => 0
  | k + 1 => if (bits .and .u8 p (bitAt k) != 0) = true then bits .or .u8 (gath p s c l g k) (stp (bitAt k) s c l g) else gath p s c l g k
theorem bitAt_succ (k : Nat) : bitAt (k + 1) = (bitAt k * 2) % 256 := by unfold bitAt; rw [Nat.pow_succ]; omega
set_option maxRecDepth 100000 in
theorem gath_all : ∀ n : Fin 256, ∀ s c l g : Bool, (s && c) = true ∨ aftC ((n.val : Nat) : Int) s c l g = gath ((n.val : Nat) : Int) s c l g 8 := by decide +kernel
theorem gath_eq (p r : Int) (h0 : 0 ≤ p) (h1 : p ≤ 255) :
    aftC p (spc r) (r == 44) (r == 40) (r == 41) = gath p (spc r) (r == 44) (r == 40) (r == 41) 8 := by
  obtain ⟨n, rfl⟩ := Int.eq_ofNat_of_zero_le h0
  refine (gath_all ⟨n, by omega⟩ (spc r) (r == 44) (r == 40) (r == 41)).resolve_left ?_
  rw [spc_comma]; simp

set_option maxHeartbeats 1000000 in
theorem union_any (p r : Int) (h0 : 0 ≤ p) (h1 : p ≤ 255) (w : World) :
    Calls Try.prog 3 #[.int .u8 p, .int .i32 r] w fun e w' => e = .returned (.bool true) ∧ w = w' := by
  have H : Hid (aftC p (spc r) (r == 44) (r == 40) (r == 41) = gath p (spc r) (r == 44) (r == 40) (r == 41) 8) := gath_eq p r h0 h1
  go_enter Try.func3, Try.ntmps3
  go_wp2
  go_loop [5, 6, 7] (fun a b i => ∃ k : Nat, k ≤ 8 ∧ i = .int .i64 k ∧ b = .int .u8 (bitAt k) ∧ a = .int .u8 (gath p (spc r) (r == 44) (r == 40) (r == 41) k)) (fun _ _ i => 8 - (intOf i).toNat)
  case atStart => exact ⟨0, by omega, rfl, rfl, rfl⟩
  case round =>
    obtain ⟨k, hk, rfl, rfl, rfl⟩ := hrel
    by_cases hlt : k < 8
    · go_wp2_with (go_at_call 12; refine (step_any _ _ _).mono ?_; rintro e w' ⟨rfl, rfl⟩)
      all_goals
        go_round
        case rel => exact ⟨k + 1, by omega, by go_num, by rw [bitAt_succ], by simp only [gath]; simp only [*, if_true, if_false, Bool.false_eq_true]⟩
        case measure => simp [intOf]; omega
    · go_wp2_with (go_at_call 13; refine (zzAfter_any _ _ _).mono ?_; rintro e w' ⟨rfl, rfl⟩)
      obtain rfl : k = 8 := by omega
      go_ret
      exact ⟨by rw [← H.out]; simp, rfl⟩
end Go.Proofs.Qxb6602033a.Cand
