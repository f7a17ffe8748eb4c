import Derived.Test.Qxb6602033aJsR
import Derived.Deep.RegionHeld3
namespace Go.Proofs.Qxb6602033a.Js
open Go.RowKit
set_option linter.unusedVariables false
set_option linter.unusedSimpArgs false

theorem f92 : (({ data := #[] } : ByteArray).toList == [92]) = false := by decide +kernel
theorem g92 : (({ data := #[92] } : ByteArray).toList == [92]) = true := by decide +kernel

theorem zr_esc (st sl : Int) (sp : Bool) (ln mk gl : Int) (ns : ByteArray) (rs : Int) (w : World) :
    Calls Try.prog 21 #[.agg #[.int .u8 st, .int .u8 sl, .string { data := #[] }, .bool sp, .int .u8 ln, .int .u8 mk, .int .u8 gl, .string ns, .int .u8 rs], .int .i32 92] w fun e w' => e = .returned (.agg #[.int .u8 st, .int .u8 sl, .string { data := #[92] }, .bool sp, .int .u8 ln, .int .u8 mk, .int .u8 gl, .string ns, .int .u8 rs]) ∧ Gb w w' := by
  refine (zzRegexp_any st sl { data := #[] } sp ln mk gl ns rs 92 w).mono fun e w' h => ⟨?_, h.2⟩
  have ht : ltm 92 = false := by decide
  rw [h.1, f92]
  simp [ht, rState, rSlash, rTail, rLine, rSw, rCnt, rCloses, bsl, emp]
theorem zr_b (st sl : Int) (sp : Bool) (ln mk gl : Int) (ns : ByteArray) (rs : Int) (r : Int) (hr : ltm r = false) (w : World) :
    Calls Try.prog 21 #[.agg #[.int .u8 st, .int .u8 sl, .string { data := #[92] }, .bool sp, .int .u8 ln, .int .u8 mk, .int .u8 gl, .string ns, .int .u8 rs], .int .i32 r] w fun e w' => e = .returned (.agg #[.int .u8 st, .int .u8 sl, .string { data := #[] }, .bool sp, .int .u8 ln, .int .u8 mk, .int .u8 gl, .string ns, .int .u8 rs]) ∧ Gb w w' := by
  refine (zzRegexp_any st sl { data := #[92] } sp ln mk gl ns rs r w).mono fun e w' h => ⟨?_, h.2⟩
  rw [h.1, g92]
  simp [hr, rState, rSlash, rTail, rLine, rSw, rCnt, rCloses, bsl, emp]
theorem zr_same (st sl : Int) (sp : Bool) (ln mk gl : Int) (ns : ByteArray) (rs : Int) (r : Int) (hr : ltm r = true) : ∃ (S L : Int) (T : ByteArray) (N : Int),
    (∀ w, Calls Try.prog 21 #[.agg #[.int .u8 st, .int .u8 sl, .string { data := #[92] }, .bool sp, .int .u8 ln, .int .u8 mk, .int .u8 gl, .string ns, .int .u8 rs], .int .i32 r] w fun e w' => e = .returned (.agg #[.int .u8 S, .int .u8 L, .string T, .bool sp, .int .u8 N, .int .u8 mk, .int .u8 gl, .string ns, .int .u8 rs]) ∧ Gb w w') ∧
    (∀ w, Calls Try.prog 21 #[.agg #[.int .u8 st, .int .u8 sl, .string { data := #[] }, .bool sp, .int .u8 ln, .int .u8 mk, .int .u8 gl, .string ns, .int .u8 rs], .int .i32 r] w fun e w' => e = .returned (.agg #[.int .u8 S, .int .u8 L, .string T, .bool sp, .int .u8 N, .int .u8 mk, .int .u8 gl, .string ns, .int .u8 rs]) ∧ Gb w w') := by
  refine ⟨_, _, _, _, fun w => ?_, fun w => (zzRegexp_any st sl { data := #[] } sp ln mk gl ns rs r w)⟩
  refine (zzRegexp_any st sl { data := #[92] } sp ln mk gl ns rs r w).mono fun e w' h => ⟨?_, h.2⟩
  rw [h.1, f92, g92]
  simp [hr, rState, rSlash, rTail, rLine, rSw, rCnt, rCloses, bsl, emp]

set_option maxHeartbeats 4000000 in
theorem lawRE_main (st sl : Int) (sp : Bool) (ln mk gl : Int) (ns : ByteArray) (rs : Int) (r : Int) (h2 : ns.size ≤ 65536) (w : World)
    (hb : Hid (Calls Try.prog 22 #[.int .u8 st, .int .u8 sl, .string { data := #[] }, .bool sp, .int .u8 ln, .int .u8 mk, .int .u8 gl, .string ns, .int .u8 rs, .int .i32 r] w fun e w' => (∃ b, e = .returned (.bool b)) ∧ w = w')) :
    Calls Try.prog 10 #[.int .u8 st, .int .u8 sl, .string { data := #[] }, .bool sp, .int .u8 ln, .int .u8 mk, .int .u8 gl, .string ns, .int .u8 rs, .int .i32 r] w fun e w' => e = .returned (.bool true) ∧ Gb w w' := by
  by_cases hr : ltm r = true
  · obtain ⟨S, L, T, N, qa, qb⟩ := zr_same st sl sp ln mk gl ns rs r hr
    have QA := show Hid _ from qa
    have QB := show Hid _ from qb
    have HR : Hid (ltm r = true) := hr
    clear qa qb hr
    go_enter Try.func10, Try.ntmps10
    go_wp2_with fail
    refine hb.out.mono ?_
    clear hb
    rintro e w' ⟨⟨b, rfl⟩, rfl⟩
    cases b
    · go_wp2_with fail
      go_ret
      exact ⟨rfl, Gb.refl _⟩
    go_wp2_with fail
    refine (zzJs_any st sl _ sp ln mk gl ns rs _).mono ?_
    rintro e w1 ⟨rfl, g1⟩
    go_wp2_with fail
    refine (zr_esc st sl sp ln mk gl ns rs _).mono ?_
    rintro e w2 ⟨rfl, g2⟩
    go_wp2_with fail
    refine (QA.out _).mono ?_
    rintro e w3 ⟨rfl, g3⟩
    have g23 := g2.trans g3
    obtain ⟨hc, hf⟩ := bcell g23.b
    have hz : w1.heap.size < w3.heap.size := by have := g23.b.size; simp at this; omega
    have G3 := (g1.alloc _ _).trans g23
    clear g1 g2 g3 g23
    go_upto_region 9 with fail
    go_cut [9, 72] (fun v9 v72 wx => v9 = .int .i32 r ∧ v72 = .bool true ∧ w3.alloc (.cells #[.int .u8 S, .int .u8 L, .string T, .bool sp, .int .u8 N, .int .u8 mk, .int .u8 gl, .string ns, .int .u8 rs] 28) = wx)
    case first =>
      go_wp2
      all_goals go_meet
      all_goals (go_light; have hr := HR.out; clear HR; exact ⟨by simp [*], by simp_all [ltm], rfl⟩)
    obtain ⟨rfl, rfl, rfl⟩ := hcut
    go_wp2_with fail
    go_region_with (go_at_call 21; refine (QB.out _).mono ?_; rintro e w5 ⟨rfl, g5⟩; obtain ⟨hc5, hf5⟩ := bcell g5.b; have hz5 : w3.heap.size < w5.heap.size := (by have := g5.b.size; simp at this; omega))
    all_goals
      go_wp2
      go_ret
      exact ⟨rfl, ((G3.alloc _ _).drew).trans g5⟩
  · have hr' : ltm r = false := by simpa using hr
    have r1 : (r == 10) = false := by simp_all [ltm]
    have r2 : (r == 13) = false := by simp_all [ltm]
    have r3 : (r == 8232) = false := by simp_all [ltm]
    have r4 : (r == 8233) = false := by simp_all [ltm]
    clear hr
    go_enter Try.func10, Try.ntmps10
    go_wp2_with fail
    refine hb.out.mono ?_
    clear hb
    rintro e w' ⟨⟨b, rfl⟩, rfl⟩
    cases b
    · go_wp2_with fail
      go_ret
      exact ⟨rfl, Gb.refl _⟩
    go_wp2_with fail
    refine (zzJs_any st sl _ sp ln mk gl ns rs _).mono ?_
    rintro e w1 ⟨rfl, g1⟩
    go_wp2_with fail
    refine (zr_esc st sl sp ln mk gl ns rs _).mono ?_
    rintro e w2 ⟨rfl, g2⟩
    go_wp2_with fail
    refine (zr_b st sl sp ln mk gl ns rs r hr' _).mono ?_
    rintro e w3 ⟨rfl, g3⟩
    have g23 := g2.trans g3
    obtain ⟨hc, hf⟩ := bcell g23.b
    have hz : w1.heap.size < w3.heap.size := by have := g23.b.size; simp at this; omega
    have G3 := (g1.alloc _ _).trans g23
    clear g1 g2 g3 g23
    go_wp2
    go_ret
    exact ⟨rfl, G3.alloc _ _⟩

theorem lawRE_long (st sl : Int) (tl : ByteArray) (sp : Bool) (ln mk gl : Int) (ns : ByteArray) (rs r : Int) (h1 : tl.size ≤ maxLen) (h2 : ns.size ≤ maxLen) (h : 65536 < tl.size ∨ 65536 < ns.size ∨ (!tl.toList.isEmpty) = true) (w : World)
    (hb : Hid (Calls Try.prog 22 #[.int .u8 st, .int .u8 sl, .string tl, .bool sp, .int .u8 ln, .int .u8 mk, .int .u8 gl, .string ns, .int .u8 rs, .int .i32 r] w fun e w' => (∃ b, e = .returned (.bool b)) ∧ w = w')) :
    Calls Try.prog 10 #[.int .u8 st, .int .u8 sl, .string tl, .bool sp, .int .u8 ln, .int .u8 mk, .int .u8 gl, .string ns, .int .u8 rs, .int .i32 r] w fun e w' => e = .returned (.bool true) ∧ Gb w w' := by
  have H : Hid (65536 < tl.size ∨ 65536 < ns.size ∨ (!tl.toList.isEmpty) = true) := h
  clear h
  unfold maxLen at h1 h2
  go_enter Try.func10, Try.ntmps10
  go_wp2_with fail
  refine hb.out.mono ?_
  clear hb
  rintro e w' ⟨⟨b, rfl⟩, rfl⟩
  cases b
  · go_wp2_with fail
    go_ret
    exact ⟨rfl, Gb.refl _⟩
  go_wp2_with fail
  all_goals first
    | (go_ret; exact ⟨rfl, Gb.refl _⟩)
    | (exfalso; rcases H.out with q | q | q <;> simp_all <;> omega)

theorem lawRE (st sl : Int) (tl : ByteArray) (sp : Bool) (ln mk gl : Int) (ns : ByteArray) (rs r : Int) (h1 : tl.size ≤ maxLen) (h2 : ns.size ≤ maxLen) (w : World) :
    Calls Try.prog 10 #[.int .u8 st, .int .u8 sl, .string tl, .bool sp, .int .u8 ln, .int .u8 mk, .int .u8 gl, .string ns, .int .u8 rs, .int .i32 r] w fun e w' => e = .returned (.bool true) ∧ Gb w w' := by
  by_cases h : 65536 < tl.size ∨ 65536 < ns.size ∨ (!tl.toList.isEmpty) = true
  · exact lawRE_long st sl tl sp ln mk gl ns rs r h1 h2 h w (bytes22_any st sl tl sp ln mk gl ns rs r h1 h2 w)
  · have hn : ns.size ≤ 65536 := by omega
    have he : tl = { data := #[] } := (toList_nil_iff_emptyBytes tl).1 (by
      have : ¬ (!tl.toList.isEmpty) = true := fun q => h (Or.inr (Or.inr q))
      simpa using this)
    subst he
    exact lawRE_main st sl sp ln mk gl ns rs r hn w (bytes22_any st sl _ sp ln mk gl ns rs r h1 h2 w)
end Go.Proofs.Qxb6602033a.Js
