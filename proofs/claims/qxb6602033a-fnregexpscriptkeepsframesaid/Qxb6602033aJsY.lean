import Derived.Test.Qxb6602033aJsW
import Derived.Test.Qxb6602033aJsX
namespace Go.Proofs.Qxb6602033a.Js
open Go.RowKit Go.Deep
set_option linter.unusedVariables false
set_option linter.unusedSimpArgs false

abbrev Hid2 (p : Prop) : Prop := p
theorem lawRS (st sl : Int) (tl : ByteArray) (sp : Bool) (ln mk gl : Int) (ns : ByteArray) (rs : Int) (x : Option Addr) (len cap : Nat) (Z : Nat → Int) (h1 : tl.size ≤ maxLen) (h2 : ns.size ≤ maxLen) (h3 : len ≤ maxLen) (w : World)
    (HC : len ≤ 65536 → Hid2 (Calls Try.prog 19 #[.slice x len cap] w fun e w' => ∃ y, e = .returned (.slice y len len) ∧ (0 < len → y = some ⟨w.heap.size, 0, none⟩ ∧ w'.rowIs w.heap.size 21 len (fun i => .int .i32 (Z i))) ∧ Below w.heap.size w w')) :
    Calls Try.prog 11 #[.int .u8 st, .int .u8 sl, .string tl, .bool sp, .int .u8 ln, .int .u8 mk, .int .u8 gl, .string ns, .int .u8 rs, .slice x len cap] w fun e w' => e = .returned (.bool true) ∧ Below w.heap.size w w' := by
  have HB := bytes23_any st sl tl sp ln mk gl ns rs x len cap h1 h2 h3 w
  by_cases H : 65536 < tl.size ∨ 65536 < ns.size ∨ 65536 < len ∨ (st ≠ 4 ∧ st ≠ 5) ∨ (tl.toList ≠ [] ∧ tl.toList ≠ [92])
  · exact scr_long st sl tl sp ln mk gl ns rs x len cap h1 h2 h3 w H HB
  · have k1 : tl.size ≤ 65536 := by omega
    have k2 : ns.size ≤ 65536 := by omega
    have k3 : len ≤ 65536 := by omega
    have k4 : st = 4 ∨ st = 5 := by omega
    have k5 : tl = { data := #[] } ∨ tl = { data := #[92] } := by
      have q : ¬ (tl.toList ≠ [] ∧ tl.toList ≠ [92]) := fun q => H (Or.inr (Or.inr (Or.inr (Or.inr q))))
      by_cases e : tl.toList = []
      · exact Or.inl ((toList_nil_iff_emptyBytes tl).1 e)
      · right
        have e2 : tl.toList = [92] := by
          by_cases e' : tl.toList = [92]
          · exact e'
          · exact absurd ⟨e, e'⟩ q
        rw [ByteArray.toList_eq] at e2
        obtain ⟨⟨l⟩⟩ := tl
        simp at e2
        subst e2
        rfl
    exact scr_main st sl tl sp ln mk gl ns rs x 0 len cap Z k1 k2 k3 w k4 k5 HB (HC k3)
end Go.Proofs.Qxb6602033a.Js
