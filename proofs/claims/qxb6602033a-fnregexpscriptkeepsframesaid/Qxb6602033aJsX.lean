import Derived.Test.Qxb6602033aJsV
namespace Go.Proofs.Qxb6602033a.Js
open Go.RowKit Go.Deep
set_option linter.unusedVariables false
set_option linter.unusedSimpArgs false

set_option maxRecDepth 40000 in
set_option maxHeartbeats 2000000 in
theorem scr_long (st sl : Int) (tl : ByteArray) (sp : Bool) (ln mk gl : Int) (ns : ByteArray) (rs : Int) (x : Option Addr) (len cap : Nat) (h1 : tl.size ≤ maxLen) (h2 : ns.size ≤ maxLen) (h3 : len ≤ maxLen) (w : World)
    (H : Hid (65536 < tl.size ∨ 65536 < ns.size ∨ 65536 < len ∨ (st ≠ 4 ∧ st ≠ 5) ∨ (tl.toList ≠ [] ∧ tl.toList ≠ [92])))
    (HB : Hid (Calls Try.prog 23 #[.int .u8 st, .int .u8 sl, .string tl, .bool sp, .int .u8 ln, .int .u8 mk, .int .u8 gl, .string ns, .int .u8 rs, .slice x len cap] w fun e w' => (∃ b, e = .returned (.bool b)) ∧ w = w')) :
    Calls Try.prog 11 #[.int .u8 st, .int .u8 sl, .string tl, .bool sp, .int .u8 ln, .int .u8 mk, .int .u8 gl, .string ns, .int .u8 rs, .slice x len cap] w fun e w' => e = .returned (.bool true) ∧ Below w.heap.size w w' := by
  unfold maxLen at h1 h2 h3
  go_enter Try.func11, Try.ntmps11
  go_wp2_with fail
  refine HB.out.mono ?_
  clear HB
  rintro e w' ⟨⟨b, rfl⟩, rfl⟩
  cases b
  · go_wp2_with fail
    go_ret
    exact ⟨rfl, Below.refl _ _⟩
  go_wp2_with fail
  all_goals first
    | (go_ret; exact ⟨rfl, Below.refl _ _⟩)
    | (exfalso; go_light; rcases H.out with q | q | q | q | q <;> simp_all <;> omega)
end Go.Proofs.Qxb6602033a.Js
