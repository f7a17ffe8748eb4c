import Derived.Test.Qxb6602033aJsB
namespace Go.Proofs.Qxb6602033a.Js
open Go.RowKit
set_option linter.unusedVariables false

/-- A line terminator. -/
def ltm (r : Int) : Bool := r == 10 || r == 13 || r == 8232 || r == 8233
theorem ltm_any (r : Int) (w : World) :
    Calls Try.prog 32 #[.int .i32 r] w fun e w' => e = .returned (.bool (ltm r)) ∧ w = w' := by
  go_enter Try.func32, Try.ntmps32
  go_wp2
  all_goals (go_ret; exact ⟨by simp [ltm, *], rfl⟩)

def rSw (E : Bool) (r : Int) : Bool := !ltm r && E
def rCnt (E : Bool) (r : Int) : Bool := !ltm r && !rSw E r
def rCloses (st : Int) (E : Bool) (r : Int) : Bool := rCnt E r && r == 47 && st == 4
def rTail (tl : ByteArray) (E : Bool) (r : Int) : ByteArray := if (ltm r || rSw E r) = true then emp else if (r == 92) = true then bsl else tl
def rState (st : Int) (E : Bool) (r : Int) : Int :=
  if (ltm r || rCloses st E r) = true then 0 else if (rCnt E r && r == 91) = true then 5 else if (rCnt E r && r == 93 && st == 5) = true then 4 else st
def rSlash (st sl : Int) (E : Bool) (r : Int) : Int := if ltm r = true then 0 else if rCloses st E r = true then 2 else sl
def rLine (ln : Int) (r : Int) : Int := if ltm r = true then 0 else ln

set_option maxHeartbeats 2000000 in
theorem regexp_any (st sl : Int) (tl : ByteArray) (sp : Bool) (ln mk gl : Int) (ns : ByteArray) (rs r : Int) (w : World) :
    Calls Try.prog 29 #[.agg #[.int .u8 st, .int .u8 sl, .string tl, .bool sp, .int .u8 ln, .int .u8 mk, .int .u8 gl, .string ns, .int .u8 rs], .int .i32 r] w fun e w' =>
      e = .returned (.agg #[.int .u8 (rState st (tl.toList == [92]) r), .int .u8 (rSlash st sl (tl.toList == [92]) r), .string (rTail tl (tl.toList == [92]) r), .bool sp, .int .u8 (rLine ln r), .int .u8 mk, .int .u8 gl, .string ns, .int .u8 rs]) ∧ Gb w w' := by
  go_enter Try.func29, Try.ntmps29
  go_wp2_with (go_at_call 32; refine (ltm_any _ _).mono ?_; rintro e w' ⟨rfl, rfl⟩)
  all_goals
    simp [bodyPost, results, Try.results29, go_sem]
    go_light
    refine ⟨?_, ((Gb.refl _).alloc _ _).alloc _ _⟩
    simp_all [rState, rSlash, rTail, rLine, rSw, rCnt, rCloses, bsl, emp]

set_option maxHeartbeats 1000000 in
theorem zzRegexp_any (st sl : Int) (tl : ByteArray) (sp : Bool) (ln mk gl : Int) (ns : ByteArray) (rs r : Int) (w : World) :
    Calls Try.prog 21 #[.agg #[.int .u8 st, .int .u8 sl, .string tl, .bool sp, .int .u8 ln, .int .u8 mk, .int .u8 gl, .string ns, .int .u8 rs], .int .i32 r] w fun e w' =>
      e = .returned (.agg #[.int .u8 (rState st (tl.toList == [92]) r), .int .u8 (rSlash st sl (tl.toList == [92]) r), .string (rTail tl (tl.toList == [92]) r), .bool sp, .int .u8 (rLine ln r), .int .u8 mk, .int .u8 gl, .string ns, .int .u8 rs]) ∧ Gb w w' := by
  go_enter Try.func21, Try.ntmps21
  go_wp2_with fail
  refine (to_any st sl tl sp ln mk gl ns rs _).mono ?_
  rintro e w1 ⟨rfl, h1⟩
  go_wp2_with fail
  refine (regexp_any st sl tl sp ln mk gl ns rs r _).mono ?_
  rintro e w2 ⟨rfl, h2⟩
  go_wp2_with fail
  refine (from_any _ _ _ _ _ _ _ _ _ _).mono ?_
  rintro e w3 ⟨rfl, h3⟩
  have h := (h1.trans h2).trans h3
  clear h1 h2 h3
  obtain ⟨hc, hf⟩ := bcell h.b
  have hz : w.heap.size + 1 < w3.heap.size := by have := h.b.size; simp at this; omega
  have hG : Gb w w3 := (((Gb.refl w).alloc _ _).alloc _ _).trans h
  go_wp2
  simp [bodyPost, results, Try.results21, go_sem, hc]
  go_light
  clear hc hf h
  have ha : ∀ o, w.heap.size ≤ (⟨w.heap.size + 1, o, none⟩ : Addr).block := fun _ => Nat.le_succ _
  exact ((((((((hG.setCell (ha 0) _).setCell (ha 1) _).setCell (ha 2) _).setCell (ha 3) _).setCell (ha 4) _).setCell (ha 5) _).setCell (ha 6) _).setCell (ha 7) _).setCell (ha 8) _
end Go.Proofs.Qxb6602033a.Js
