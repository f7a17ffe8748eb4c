import Derived.Test.Qxb6602033aJsA
namespace Go.Proofs.Qxb6602033a.Js
open Go.RowKit
set_option linter.unusedVariables false

set_option maxHeartbeats 1000000 in
theorem from_any (st sl : Int) (tl : ByteArray) (sp : Bool) (ln mk gl : Int) (ns : ByteArray) (rs : Int) (w : World) :
    Calls Try.prog 26 #[.agg #[.int .u8 st, .int .u8 sl, .string tl, .bool sp, .int .u8 ln, .int .u8 mk, .int .u8 gl, .string ns, .int .u8 rs]] w fun e w' =>
      e = .returned (.agg #[.int .u8 st, .int .u8 sl, .string tl, .bool sp, .int .u8 ln, .int .u8 mk, .int .u8 gl, .string ns, .int .u8 rs]) ∧ Gb w w' := by
  go_enter Try.func26, Try.ntmps26
  go_wp2
  simp [bodyPost, results, Try.results26, go_sem]
  exact ((Gb.refl _).alloc _ _).alloc _ _

set_option maxHeartbeats 1000000 in
theorem to_any (st sl : Int) (tl : ByteArray) (sp : Bool) (ln mk gl : Int) (ns : ByteArray) (rs : Int) (w : World) :
    Calls Try.prog 27 #[.agg #[.int .u8 st, .int .u8 sl, .string tl, .bool sp, .int .u8 ln, .int .u8 mk, .int .u8 gl, .string ns, .int .u8 rs]] w fun e w' =>
      e = .returned (.agg #[.int .u8 st, .int .u8 sl, .string tl, .bool sp, .int .u8 ln, .int .u8 mk, .int .u8 gl, .string ns, .int .u8 rs]) ∧ Gb w w' := by
  go_enter Try.func27, Try.ntmps27
  go_wp2
  simp [bodyPost, results, Try.results27, go_sem]
  exact ((Gb.refl _).alloc _ _).alloc _ _

set_option maxHeartbeats 1000000 in
theorem zzJs_any (st sl : Int) (tl : ByteArray) (sp : Bool) (ln mk gl : Int) (ns : ByteArray) (rs : Int) (w : World) :
    Calls Try.prog 16 #[.int .u8 st, .int .u8 sl, .string tl, .bool sp, .int .u8 ln, .int .u8 mk, .int .u8 gl, .string ns, .int .u8 rs] w fun e w' =>
      e = .returned (.agg #[.int .u8 st, .int .u8 sl, .string tl, .bool sp, .int .u8 ln, .int .u8 mk, .int .u8 gl, .string ns, .int .u8 rs]) ∧ Gb w w' := by
  go_enter Try.func16, Try.ntmps16
  go_wp2
  simp [bodyPost, results, Try.results16, go_sem]
  exact (Gb.refl _).alloc _ _

theorem bcell {W w1 : World} (hb : Below W.heap.size W w1) : (∀ b o, b < W.heap.size → w1.cell? ⟨b, o, none⟩ = W.cell? ⟨b, o, none⟩) ∧ (∀ b o, b < W.heap.size → w1.frozen? ⟨b, o, none⟩ = W.frozen? ⟨b, o, none⟩) :=
  ⟨fun b o h => hb.cell (p := ⟨b, o, none⟩) h, fun b o h => hb.frozen (p := ⟨b, o, none⟩) h⟩

set_option maxHeartbeats 1000000 in
theorem zzQuoted_any (st sl : Int) (tl : ByteArray) (sp : Bool) (ln mk gl : Int) (ns : ByteArray) (rs r : Int) (w : World) :
    Calls Try.prog 15 #[.agg #[.int .u8 st, .int .u8 sl, .string tl, .bool sp, .int .u8 ln, .int .u8 mk, .int .u8 gl, .string ns, .int .u8 rs], .int .i32 r] w fun e w' =>
      e = .returned (.agg #[.int .u8 (qState st (tl.toList == [92]) (tl.toList == [13]) r), .int .u8 (qSlash st sl mk (tl.toList == [92]) (tl.toList == [13]) r), .string (qTail tl (tl.toList == [92]) (tl.toList == [13]) r), .bool sp, .int .u8 (qLine ln (tl.toList == [92]) (tl.toList == [13]) r), .int .u8 (qMark st mk (tl.toList == [92]) (tl.toList == [13]) r), .int .u8 gl, .string ns, .int .u8 rs]) ∧ Gb w w' := by
  go_enter Try.func15, Try.ntmps15
  go_wp2_with fail
  refine (to_any st sl tl sp ln mk gl ns rs _).mono ?_
  rintro e w1 ⟨rfl, h1⟩
  go_wp2_with fail
  refine (quoted_any st sl tl sp ln mk gl ns rs r _).mono ?_
  rintro e w2 ⟨rfl, h2⟩
  go_wp2_with fail
  refine (from_any _ _ _ _ _ _ _ _ _ _).mono ?_
  rintro e w3 ⟨rfl, h3⟩
  have h := (h1.trans h2).trans h3
  clear h1 h2 h3
  obtain ⟨hc, hf⟩ := bcell h.b
  have hz : w.heap.size + 1 < w3.heap.size := by have := h.b.size; simp at this; omega
  have hG : Gb w w3 := (((Gb.refl w).alloc _ _).alloc _ _).trans h
  go_wp2
  simp [bodyPost, results, Try.results15, go_sem, hc]
  go_light
  clear hc hf h
  have ha : ∀ o, w.heap.size ≤ (⟨w.heap.size + 1, o, none⟩ : Addr).block := fun _ => Nat.le_succ _
  exact ((((((((hG.setCell (ha 0) _).setCell (ha 1) _).setCell (ha 2) _).setCell (ha 3) _).setCell (ha 4) _).setCell (ha 5) _).setCell (ha 6) _).setCell (ha 7) _).setCell (ha 8) _
set_option maxHeartbeats 1000000 in
theorem bytes14_any (st sl : Int) (tl : ByteArray) (sp : Bool) (ln mk gl : Int) (ns : ByteArray) (rs r : Int) (h1 : tl.size ≤ maxLen) (h2 : ns.size ≤ maxLen) (w : World) :
    Calls Try.prog 14 #[.int .u8 st, .int .u8 sl, .string tl, .bool sp, .int .u8 ln, .int .u8 mk, .int .u8 gl, .string ns, .int .u8 rs, .int .i32 r] w fun e w' =>
      (∃ b, e = .returned (.bool b)) ∧ w = w' := by
  unfold maxLen at h1 h2
  go_enter Try.func14, Try.ntmps14
  go_wp2
  all_goals (go_ret; exact ⟨⟨_, rfl⟩, rfl⟩)

set_option maxHeartbeats 1000000 in
theorem bytes17_any (st sl : Int) (tl : ByteArray) (sp : Bool) (ln mk gl : Int) (ns : ByteArray) (rs r c : Int) (h1 : tl.size ≤ maxLen) (h2 : ns.size ≤ maxLen) (w : World) :
    Calls Try.prog 17 #[.int .u8 st, .int .u8 sl, .string tl, .bool sp, .int .u8 ln, .int .u8 mk, .int .u8 gl, .string ns, .int .u8 rs, .int .i32 r, .int .i32 c] w fun e w' =>
      (∃ b, e = .returned (.bool b)) ∧ w = w' := by
  unfold maxLen at h1 h2
  go_enter Try.func17, Try.ntmps17
  go_wp2
  all_goals (go_ret; exact ⟨⟨_, rfl⟩, rfl⟩)

set_option maxHeartbeats 1000000 in
theorem bytes20_any (st sl : Int) (tl : ByteArray) (sp : Bool) (ln mk gl : Int) (ns : ByteArray) (rs r : Int) (h1 : tl.size ≤ maxLen) (h2 : ns.size ≤ maxLen) (w : World) :
    Calls Try.prog 20 #[.int .u8 st, .int .u8 sl, .string tl, .bool sp, .int .u8 ln, .int .u8 mk, .int .u8 gl, .string ns, .int .u8 rs, .int .i32 r] w fun e w' =>
      (∃ b, e = .returned (.bool b)) ∧ w = w' := by
  unfold maxLen at h1 h2
  go_enter Try.func20, Try.ntmps20
  go_wp2
  all_goals (go_ret; exact ⟨⟨_, rfl⟩, rfl⟩)

set_option maxHeartbeats 1000000 in
theorem bytes22_any (st sl : Int) (tl : ByteArray) (sp : Bool) (ln mk gl : Int) (ns : ByteArray) (rs r : Int) (h1 : tl.size ≤ maxLen) (h2 : ns.size ≤ maxLen) (w : World) :
    Calls Try.prog 22 #[.int .u8 st, .int .u8 sl, .string tl, .bool sp, .int .u8 ln, .int .u8 mk, .int .u8 gl, .string ns, .int .u8 rs, .int .i32 r] w fun e w' =>
      (∃ b, e = .returned (.bool b)) ∧ w = w' := by
  unfold maxLen at h1 h2
  go_enter Try.func22, Try.ntmps22
  go_wp2
  all_goals (go_ret; exact ⟨⟨_, rfl⟩, rfl⟩)

end Go.Proofs.Qxb6602033a.Js
