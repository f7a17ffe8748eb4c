import Derived.Test.Qxb6602033aCandA
namespace Go.Proofs.Qxb6602033a.Cand
open Go.RowKit
set_option linter.unusedVariables false

theorem zzAfter_any (p r : Int) (w : World) :
    Calls Try.prog 13 #[.int .u8 p, .int .i32 r] w fun e w' => e = .returned (.int .u8 (aftC p (spc r) (r == 44) (r == 40) (r == 41))) ∧ w = w' := by
  go_enter Try.func13, Try.ntmps13
  go_wp2_with (go_at_call 25; refine (after_any _ _ _).mono ?_; rintro e w' ⟨rfl, rfl⟩)
  go_ret
  exact ⟨rfl, rfl⟩

/-- The four facts of one byte and one kind of character. -/
def fine (p : Int) (s c l g : Bool) : Bool :=
  (bits .andNot .u8 (aftC p s c l g) 31 == 0) && (aftC (bits .and .u8 p 31) s c l g == aftC p s c l g) &&
  (bits .and .u8 p 31 == 0 || aftC p s c l g != 0) &&
  (bits .and .u8 p 31 == 0 || bits .and .u8 (bits .and .u8 p 31) ((bits .and .u8 p 31 - 1) % 256) != 0 || bits .and .u8 (aftC p s c l g) ((aftC p s c l g - 1) % 256) == 0 || (s && c))
set_option maxRecDepth 100000 in
theorem fine_all : ∀ n : Fin 256, ∀ s c l g : Bool, fine ((n.val : Nat) : Int) s c l g = true := by decide +kernel
theorem fine_at (p : Int) (h0 : 0 ≤ p) (h1 : p ≤ 255) (s c l g : Bool) : fine p s c l g = true := by
  obtain ⟨n, rfl⟩ := Int.eq_ofNat_of_zero_le h0
  exact fine_all ⟨n, by omega⟩ s c l g
theorem spc_comma (r : Int) : (spc r && r == 44) = false := by
  unfold spc
  by_cases h : r = 44
  · subst h; rfl
  · simp [h]
theorem fine_facts (p r : Int) (h0 : 0 ≤ p) (h1 : p ≤ 255) :
    bits .andNot .u8 (aftC p (spc r) (r == 44) (r == 40) (r == 41)) 31 = 0 ∧
    aftC (bits .and .u8 p 31) (spc r) (r == 44) (r == 40) (r == 41) = aftC p (spc r) (r == 44) (r == 40) (r == 41) ∧
    (bits .and .u8 p 31 ≠ 0 → aftC p (spc r) (r == 44) (r == 40) (r == 41) ≠ 0) ∧
    (bits .and .u8 p 31 ≠ 0 → bits .and .u8 (bits .and .u8 p 31) ((bits .and .u8 p 31 - 1) % 256) = 0 →
      bits .and .u8 (aftC p (spc r) (r == 44) (r == 40) (r == 41)) ((aftC p (spc r) (r == 44) (r == 40) (r == 41) - 1) % 256) = 0) := by
  have hf := fine_at p h0 h1 (spc r) (r == 44) (r == 40) (r == 41)
  have hs := spc_comma r
  unfold fine at hf
  rw [hs] at hf
  simp only [Bool.and_eq_true, Bool.or_eq_true, beq_iff_eq, bne_iff_ne, Bool.or_false] at hf
  obtain ⟨⟨⟨f1, f2⟩, f3⟩, f4⟩ := hf
  exact ⟨f1, f2, fun h => f3.resolve_left h, fun h k => (f4.resolve_left (fun q => q.elim h (fun q => q k)))⟩
end Go.Proofs.Qxb6602033a.Cand
