import Derived.Test.Qxb6602033aJsU
namespace Go.Proofs.Qxb6602033a.Js
open Go.RowKit Go.Deep
set_option linter.unusedVariables false
set_option linter.unusedSimpArgs false

/-- Block B holds a context. -/
def JAt (w : World) (B : Nat) (st sl : Int) (tl : ByteArray) (sp : Bool) (ln mk gl : Int) (ns : ByteArray) (rs : Int) : Prop :=
  w.heap[B]? = some (.cells #[.int .u8 st, .int .u8 sl, .string tl, .bool sp, .int .u8 ln, .int .u8 mk, .int .u8 gl, .string ns, .int .u8 rs] 28 (0, 0))
section
variable {w : World} {B : Nat} {st sl : Int} {tl : ByteArray} {sp : Bool} {ln mk gl : Int} {ns : ByteArray} {rs : Int}
theorem JAt.c0 (h : JAt w B st sl tl sp ln mk gl ns rs) : w.cell? ⟨B, 0, none⟩ = some (.int .u8 st) := by unfold JAt at h; simp [World.cell?, h]
theorem JAt.c1 (h : JAt w B st sl tl sp ln mk gl ns rs) : w.cell? ⟨B, 1, none⟩ = some (.int .u8 sl) := by unfold JAt at h; simp [World.cell?, h]
theorem JAt.c2 (h : JAt w B st sl tl sp ln mk gl ns rs) : w.cell? ⟨B, 2, none⟩ = some (.string tl) := by unfold JAt at h; simp [World.cell?, h]
theorem JAt.c3 (h : JAt w B st sl tl sp ln mk gl ns rs) : w.cell? ⟨B, 3, none⟩ = some (.bool sp) := by unfold JAt at h; simp [World.cell?, h]
theorem JAt.c4 (h : JAt w B st sl tl sp ln mk gl ns rs) : w.cell? ⟨B, 4, none⟩ = some (.int .u8 ln) := by unfold JAt at h; simp [World.cell?, h]
theorem JAt.c5 (h : JAt w B st sl tl sp ln mk gl ns rs) : w.cell? ⟨B, 5, none⟩ = some (.int .u8 mk) := by unfold JAt at h; simp [World.cell?, h]
theorem JAt.c6 (h : JAt w B st sl tl sp ln mk gl ns rs) : w.cell? ⟨B, 6, none⟩ = some (.int .u8 gl) := by unfold JAt at h; simp [World.cell?, h]
theorem JAt.c7 (h : JAt w B st sl tl sp ln mk gl ns rs) : w.cell? ⟨B, 7, none⟩ = some (.string ns) := by unfold JAt at h; simp [World.cell?, h]
theorem JAt.c8 (h : JAt w B st sl tl sp ln mk gl ns rs) : w.cell? ⟨B, 8, none⟩ = some (.int .u8 rs) := by unfold JAt at h; simp [World.cell?, h]
theorem JAt.frozen (h : JAt w B st sl tl sp ln mk gl ns rs) (o : Nat) : w.frozen? ⟨B, o, none⟩ = false := by unfold JAt at h; simp [World.frozen?, h]
theorem JAt.lt (h : JAt w B st sl tl sp ln mk gl ns rs) : B < w.heap.size := by
  unfold JAt at h
  obtain ⟨hlt, _⟩ := Array.getElem?_eq_some_iff.1 h
  exact hlt
theorem JAt.below {w' : World} {K : Nat} (h : JAt w B st sl tl sp ln mk gl ns rs) (hb : Below K w w') (hK : B < K) : JAt w' B st sl tl sp ln mk gl ns rs := (hb.block B hK).trans h
theorem JAt.drew (h : JAt w B st sl tl sp ln mk gl ns rs) : JAt w.drew B st sl tl sp ln mk gl ns rs := h
theorem JAt.put (h : JAt w B st sl tl sp ln mk gl ns rs) (a0 a1 : Int) (a2 : ByteArray) (a3 : Bool) (a4 a5 a6 : Int) (a7 : ByteArray) (a8 : Int) :
    JAt (((((((((w.setCell ⟨B, 0, none⟩ (.int .u8 a0)).setCell ⟨B, 1, none⟩ (.int .u8 a1)).setCell ⟨B, 2, none⟩ (.string a2)).setCell ⟨B, 3, none⟩ (.bool a3)).setCell ⟨B, 4, none⟩ (.int .u8 a4)).setCell ⟨B, 5, none⟩ (.int .u8 a5)).setCell ⟨B, 6, none⟩ (.int .u8 a6)).setCell ⟨B, 7, none⟩ (.string a7)).setCell ⟨B, 8, none⟩ (.int .u8 a8))
      B a0 a1 a2 a3 a4 a5 a6 a7 a8 := by
  unfold JAt at h ⊢
  simp [World.setCell, Array.getElem?_modify, h]
end

/-- What the script keeps. -/
def InvR (sl ln : Int) (S L : Int) (T : ByteArray) (N : Int) : Prop :=
  (S = 0 ∨ S = 4 ∨ S = 5) ∧ (L = sl ∨ L = 0 ∨ L = 2) ∧ (T = { data := #[] } ∨ T = { data := #[92] }) ∧ (N = ln ∨ N = 0)
theorem InvR.step {sl ln S L N : Int} {T : ByteArray} (h : InvR sl ln S L T N) (E : Bool) (r : Int) : InvR sl ln (rState S E r) (rSlash S L E r) (rTail T E r) (rLine N r) := by
  obtain ⟨h1, h2, h3, h4⟩ := h
  refine ⟨?_, ?_, ?_, ?_⟩
  · unfold rState; split
    · exact Or.inl rfl
    · split
      · exact Or.inr (Or.inr rfl)
      · split
        · exact Or.inr (Or.inl rfl)
        · exact h1
  · unfold rSlash; split
    · exact Or.inr (Or.inl rfl)
    · split
      · exact Or.inr (Or.inr rfl)
      · exact h2
  · unfold rTail; split
    · exact Or.inl rfl
    · split
      · exact Or.inr rfl
      · exact h3
  · unfold rLine; split
    · exact Or.inr rfl
    · exact h4
end Go.Proofs.Qxb6602033a.Js
