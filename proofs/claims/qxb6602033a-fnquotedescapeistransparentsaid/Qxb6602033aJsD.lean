import Derived.Test.Qxb6602033aJsB
import Derived.Deep.RegionHeld3
namespace Go.Proofs.Qxb6602033a.Js
open Go.RowKit
set_option linter.unusedVariables false
set_option linter.unusedSimpArgs false

theorem e92 : (({ data := #[] } : ByteArray).toList == [92]) = false := by decide +kernel
theorem e13 : (({ data := #[] } : ByteArray).toList == [13]) = false := by decide +kernel
theorem b92 : (({ data := #[92] } : ByteArray).toList == [92]) = true := by decide +kernel
theorem b13 : (({ data := #[92] } : ByteArray).toList == [13]) = false := by decide +kernel
theorem c92 : (({ data := #[13] } : ByteArray).toList == [92]) = false := by decide +kernel
theorem c13 : (({ data := #[13] } : ByteArray).toList == [13]) = true := by decide +kernel

theorem zq_esc (st sl : Int) (sp : Bool) (ln mk gl : Int) (ns : ByteArray) (rs : Int) (w : World) :
    Calls Try.prog 15 #[.agg #[.int .u8 st, .int .u8 sl, .string { data := #[] }, .bool sp, .int .u8 ln, .int .u8 mk, .int .u8 gl, .string ns, .int .u8 rs], .int .i32 92] w fun e w' => e = .returned (.agg #[.int .u8 st, .int .u8 sl, .string { data := #[92] }, .bool sp, .int .u8 ln, .int .u8 mk, .int .u8 gl, .string ns, .int .u8 rs]) ∧ Gb w w' := by
  refine (zzQuoted_any st sl { data := #[] } sp ln mk gl ns rs 92 w).mono fun e w' h => ⟨?_, h.2⟩
  have q92 : ¬ (92 : Int) = qQuote st := by unfold qQuote; split <;> decide
  have q10 : ¬ (10 : Int) = qQuote st := by unfold qQuote; split <;> decide
  rw [h.1, e92, e13]
  simp [q92, q10, qState, qSlash, qTail, qLine, qMark, qSpec, qBreaks, qCloses, qEscapes, qCons, bsl, crr, emp]
theorem zq_b (st sl : Int) (sp : Bool) (ln mk gl : Int) (ns : ByteArray) (rs : Int) (r : Int) (hr : ¬ r = 13) (w : World) :
    Calls Try.prog 15 #[.agg #[.int .u8 st, .int .u8 sl, .string { data := #[92] }, .bool sp, .int .u8 ln, .int .u8 mk, .int .u8 gl, .string ns, .int .u8 rs], .int .i32 r] w fun e w' => e = .returned (.agg #[.int .u8 st, .int .u8 sl, .string { data := #[] }, .bool sp, .int .u8 ln, .int .u8 mk, .int .u8 gl, .string ns, .int .u8 rs]) ∧ Gb w w' := by
  refine (zzQuoted_any st sl { data := #[92] } sp ln mk gl ns rs r w).mono fun e w' h => ⟨?_, h.2⟩
  have q92 : ¬ (92 : Int) = qQuote st := by unfold qQuote; split <;> decide
  have q10 : ¬ (10 : Int) = qQuote st := by unfold qQuote; split <;> decide
  rw [h.1, b92, b13]
  simp [q92, q10, qState, qSlash, qTail, qLine, qMark, qSpec, qBreaks, qCloses, qEscapes, qCons, bsl, crr, emp, hr]
theorem zq_b13 (st sl : Int) (sp : Bool) (ln mk gl : Int) (ns : ByteArray) (rs : Int) (w : World) :
    Calls Try.prog 15 #[.agg #[.int .u8 st, .int .u8 sl, .string { data := #[92] }, .bool sp, .int .u8 ln, .int .u8 mk, .int .u8 gl, .string ns, .int .u8 rs], .int .i32 13] w fun e w' => e = .returned (.agg #[.int .u8 st, .int .u8 sl, .string { data := #[13] }, .bool sp, .int .u8 ln, .int .u8 mk, .int .u8 gl, .string ns, .int .u8 rs]) ∧ Gb w w' := by
  refine (zzQuoted_any st sl { data := #[92] } sp ln mk gl ns rs 13 w).mono fun e w' h => ⟨?_, h.2⟩
  have q92 : ¬ (92 : Int) = qQuote st := by unfold qQuote; split <;> decide
  have q10 : ¬ (10 : Int) = qQuote st := by unfold qQuote; split <;> decide
  rw [h.1, b92, b13]
  simp [q92, q10, qState, qSlash, qTail, qLine, qMark, qSpec, qBreaks, qCloses, qEscapes, qCons, bsl, crr, emp]
theorem zq_c10 (st sl : Int) (sp : Bool) (ln mk gl : Int) (ns : ByteArray) (rs : Int) (w : World) :
    Calls Try.prog 15 #[.agg #[.int .u8 st, .int .u8 sl, .string { data := #[13] }, .bool sp, .int .u8 ln, .int .u8 mk, .int .u8 gl, .string ns, .int .u8 rs], .int .i32 10] w fun e w' => e = .returned (.agg #[.int .u8 st, .int .u8 sl, .string { data := #[] }, .bool sp, .int .u8 ln, .int .u8 mk, .int .u8 gl, .string ns, .int .u8 rs]) ∧ Gb w w' := by
  refine (zzQuoted_any st sl { data := #[13] } sp ln mk gl ns rs 10 w).mono fun e w' h => ⟨?_, h.2⟩
  have q92 : ¬ (92 : Int) = qQuote st := by unfold qQuote; split <;> decide
  have q10 : ¬ (10 : Int) = qQuote st := by unfold qQuote; split <;> decide
  rw [h.1, c92, c13]
  simp [q92, q10, qState, qSlash, qTail, qLine, qMark, qSpec, qBreaks, qCloses, qEscapes, qCons, bsl, crr, emp]
theorem zq_same (st sl : Int) (sp : Bool) (ln mk gl : Int) (ns : ByteArray) (rs : Int) (c : Int) (hc : ¬ c = 10) : ∃ (S L : Int) (T : ByteArray) (N M : Int),
    (∀ w, Calls Try.prog 15 #[.agg #[.int .u8 st, .int .u8 sl, .string { data := #[13] }, .bool sp, .int .u8 ln, .int .u8 mk, .int .u8 gl, .string ns, .int .u8 rs], .int .i32 c] w fun e w' => e = .returned (.agg #[.int .u8 S, .int .u8 L, .string T, .bool sp, .int .u8 N, .int .u8 M, .int .u8 gl, .string ns, .int .u8 rs]) ∧ Gb w w') ∧
    (∀ w, Calls Try.prog 15 #[.agg #[.int .u8 st, .int .u8 sl, .string { data := #[] }, .bool sp, .int .u8 ln, .int .u8 mk, .int .u8 gl, .string ns, .int .u8 rs], .int .i32 c] w fun e w' => e = .returned (.agg #[.int .u8 S, .int .u8 L, .string T, .bool sp, .int .u8 N, .int .u8 M, .int .u8 gl, .string ns, .int .u8 rs]) ∧ Gb w w') := by
  refine ⟨_, _, _, _, _, fun w => ?_, fun w => (zzQuoted_any st sl { data := #[] } sp ln mk gl ns rs c w)⟩
  refine (zzQuoted_any st sl { data := #[13] } sp ln mk gl ns rs c w).mono fun e w' h => ⟨?_, h.2⟩
  rw [h.1, c92, c13, e92, e13]
  simp [qState, qSlash, qTail, qLine, qMark, qSpec, qBreaks, qCloses, qEscapes, qCons, bsl, crr, emp, hc]

set_option maxHeartbeats 2000000 in
theorem lawQE_main (st sl : Int) (sp : Bool) (ln mk gl : Int) (ns : ByteArray) (rs : Int) (r c : Int) (h2 : ns.size ≤ 65536) (w : World)
    (hb : Hid (Calls Try.prog 17 #[.int .u8 st, .int .u8 sl, .string { data := #[] }, .bool sp, .int .u8 ln, .int .u8 mk, .int .u8 gl, .string ns, .int .u8 rs, .int .i32 r, .int .i32 c] w fun e w' => (∃ b, e = .returned (.bool b)) ∧ w = w')) :
    Calls Try.prog 7 #[.int .u8 st, .int .u8 sl, .string { data := #[] }, .bool sp, .int .u8 ln, .int .u8 mk, .int .u8 gl, .string ns, .int .u8 rs, .int .i32 r, .int .i32 c] w fun e w' => e = .returned (.bool true) ∧ Gb w w' := by
  by_cases hr : r = 13
  · subst hr
    by_cases hc0 : c = 10
    · subst hc0
      go_enter Try.func7, Try.ntmps7
      go_wp2_with fail
      refine hb.out.mono ?_
      clear hb
      rintro e w' ⟨⟨b, rfl⟩, rfl⟩
      cases b
      · go_wp2_with fail
        go_ret
        exact ⟨rfl, Gb.refl _⟩
      go_wp2_with fail
      refine (zzJs_any st sl _ sp ln mk gl ns rs _).mono ?_
      rintro e w1 ⟨rfl, g1⟩
      go_wp2_with fail
      refine (zq_esc st sl sp ln mk gl ns rs _).mono ?_
      rintro e w2 ⟨rfl, g2⟩
      obtain ⟨hc, hf⟩ := bcell g2.b
      have hz : w1.heap.size < w2.heap.size := by have := g2.b.size; simp at this; omega
      have G2 := (g1.alloc _ _).trans g2
      clear g1
      go_wp2_with fail
      refine (zq_b13 st sl sp ln mk gl ns rs _).mono ?_
      rintro e w3 ⟨rfl, g3⟩
      go_wp2_with fail
      refine (zq_c10 st sl sp ln mk gl ns rs _).mono ?_
      rintro e w4 ⟨rfl, g4⟩
      have g34 := g3.trans g4
      obtain ⟨hc3, hf3⟩ := bcell g34.b
      have hz3 : w2.heap.size < w4.heap.size := by have := g34.b.size; simp at this; omega
      have hz4 : w1.heap.size < w4.heap.size := by omega
      have G4 := (G2.alloc _ _).trans g34
      clear g3 g4 g34 g2
      go_wp2
      go_ret
      exact ⟨rfl, G4.alloc _ _⟩
    · have hc1 : (c == 10) = false := by simpa using hc0
      obtain ⟨S, L, T, N, M, qa, qb⟩ := zq_same st sl sp ln mk gl ns rs c hc0
      have QA := show Hid _ from qa
      have QB := show Hid _ from qb
      clear qa qb hc0
      go_enter Try.func7, Try.ntmps7
      go_wp2_with fail
      refine hb.out.mono ?_
      clear hb
      rintro e w' ⟨⟨b, rfl⟩, rfl⟩
      cases b
      · go_wp2_with fail
        go_ret
        exact ⟨rfl, Gb.refl _⟩
      go_wp2_with fail
      refine (zzJs_any st sl _ sp ln mk gl ns rs _).mono ?_
      rintro e w1 ⟨rfl, g1⟩
      go_wp2_with fail
      refine (zq_esc st sl sp ln mk gl ns rs _).mono ?_
      rintro e w2 ⟨rfl, g2⟩
      obtain ⟨hc, hf⟩ := bcell g2.b
      have hz : w1.heap.size < w2.heap.size := by have := g2.b.size; simp at this; omega
      have G2 := (g1.alloc _ _).trans g2
      clear g1
      go_wp2_with fail
      refine (zq_b13 st sl sp ln mk gl ns rs _).mono ?_
      rintro e w3 ⟨rfl, g3⟩
      go_wp2_with fail
      refine (QA.out _).mono ?_
      rintro e w4 ⟨rfl, g4⟩
      have g34 := g3.trans g4
      obtain ⟨hc3, hf3⟩ := bcell g34.b
      have hz3 : w2.heap.size < w4.heap.size := by have := g34.b.size; simp at this; omega
      have hz4 : w1.heap.size < w4.heap.size := by omega
      have G4 := (G2.alloc _ _).trans g34
      clear g3 g4 g34 g2
      go_wp2_with fail
      go_region_with (go_at_call 15; refine (QB.out _).mono ?_; rintro e w5 ⟨rfl, g5⟩; obtain ⟨hc5, hf5⟩ := bcell g5.b; have hz5 : w4.heap.size < w5.heap.size := (by have := g5.b.size; simp at this; omega))
      all_goals
        go_wp2
        go_ret
        exact ⟨rfl, ((G4.alloc _ _).drew).trans g5⟩
  · have hr1 : (r != 13) = true := by simpa using hr
    go_enter Try.func7, Try.ntmps7
    go_wp2_with fail
    refine hb.out.mono ?_
    clear hb
    rintro e w' ⟨⟨b, rfl⟩, rfl⟩
    cases b
    · go_wp2_with fail
      go_ret
      exact ⟨rfl, Gb.refl _⟩
    go_wp2_with fail
    refine (zzJs_any st sl _ sp ln mk gl ns rs _).mono ?_
    rintro e w1 ⟨rfl, g1⟩
    go_wp2_with fail
    refine (zq_esc st sl sp ln mk gl ns rs _).mono ?_
    rintro e w2 ⟨rfl, g2⟩
    obtain ⟨hc, hf⟩ := bcell g2.b
    have hz : w1.heap.size < w2.heap.size := by have := g2.b.size; simp at this; omega
    have G2 := (g1.alloc _ _).trans g2
    clear g1
    go_wp2
    go_region_with (go_at_call 15; refine (zq_b st sl sp ln mk gl ns rs r hr _).mono ?_; rintro e w3 ⟨rfl, g3⟩; obtain ⟨hc3, hf3⟩ := bcell g3.b)
    all_goals
      go_wp2
      go_ret
      exact ⟨rfl, ((G2.alloc _ _).drew).trans g3⟩

theorem lawQE_long (st sl : Int) (tl : ByteArray) (sp : Bool) (ln mk gl : Int) (ns : ByteArray) (rs r c : Int) (h1 : tl.size ≤ maxLen) (h2 : ns.size ≤ maxLen) (h : 65536 < tl.size ∨ 65536 < ns.size ∨ (!tl.toList.isEmpty) = true) (w : World)
    (hb : Hid (Calls Try.prog 17 #[.int .u8 st, .int .u8 sl, .string tl, .bool sp, .int .u8 ln, .int .u8 mk, .int .u8 gl, .string ns, .int .u8 rs, .int .i32 r, .int .i32 c] w fun e w' => (∃ b, e = .returned (.bool b)) ∧ w = w')) :
    Calls Try.prog 7 #[.int .u8 st, .int .u8 sl, .string tl, .bool sp, .int .u8 ln, .int .u8 mk, .int .u8 gl, .string ns, .int .u8 rs, .int .i32 r, .int .i32 c] w fun e w' => e = .returned (.bool true) ∧ Gb w w' := by
  have H : Hid (65536 < tl.size ∨ 65536 < ns.size ∨ (!tl.toList.isEmpty) = true) := h
  clear h
  unfold maxLen at h1 h2
  go_enter Try.func7, Try.ntmps7
  go_wp2_with fail
  refine hb.out.mono ?_
  clear hb
  rintro e w' ⟨⟨b, rfl⟩, rfl⟩
  cases b
  · go_wp2_with fail
    go_ret
    exact ⟨rfl, Gb.refl _⟩
  go_wp2_with fail
  all_goals first
    | (go_ret; exact ⟨rfl, Gb.refl _⟩)
    | (exfalso; rcases H.out with q | q | q <;> simp_all <;> omega)

theorem lawQE (st sl : Int) (tl : ByteArray) (sp : Bool) (ln mk gl : Int) (ns : ByteArray) (rs r c : Int) (h1 : tl.size ≤ maxLen) (h2 : ns.size ≤ maxLen) (w : World) :
    Calls Try.prog 7 #[.int .u8 st, .int .u8 sl, .string tl, .bool sp, .int .u8 ln, .int .u8 mk, .int .u8 gl, .string ns, .int .u8 rs, .int .i32 r, .int .i32 c] w fun e w' => e = .returned (.bool true) ∧ Gb w w' := by
  by_cases h : 65536 < tl.size ∨ 65536 < ns.size ∨ (!tl.toList.isEmpty) = true
  · exact lawQE_long st sl tl sp ln mk gl ns rs r c h1 h2 h w (bytes17_any st sl tl sp ln mk gl ns rs r c h1 h2 w)
  · have hn : ns.size ≤ 65536 := by omega
    have he : tl = { data := #[] } := (toList_nil_iff_emptyBytes tl).1 (by
      have : ¬ (!tl.toList.isEmpty) = true := fun q => h (Or.inr (Or.inr q))
      simpa using this)
    subst he
    exact lawQE_main st sl sp ln mk gl ns rs r c hn w (bytes17_any st sl _ sp ln mk gl ns rs r c h1 h2 w)
end Go.Proofs.Qxb6602033a.Js
