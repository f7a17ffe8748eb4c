import Derived.Test.Qxb6602033aJsV
namespace Go.Proofs.Qxb6602033a.Js
open Go.RowKit Go.Deep
set_option linter.unusedVariables false
set_option linter.unusedSimpArgs false

theorem t17 {sl ln S L N : Int} {T : ByteArray} (h : InvR sl ln S L T N) (a : ¬ S = 0) (b : ¬ S = 4) : Value.bool (S != 0 && S != 4 && S != 5) = .bool false := by
  rcases h.1 with q | q | q
  · exact absurd q a
  · exact absurd q b
  · subst q; rfl

theorem t19 {sl ln S L N : Int} {T : ByteArray} (h : InvR sl ln S L T N) : Value.bool (!T.toList.isEmpty && !T.toList == [92]) = .bool false := by
  have e1 : (!({ data := #[] } : ByteArray).toList.isEmpty && !({ data := #[] } : ByteArray).toList == [92]) = false := by decide +kernel
  have e2 : (!({ data := #[92] } : ByteArray).toList.isEmpty && !({ data := #[92] } : ByteArray).toList == [92]) = false := by decide +kernel
  rcases h.2.2.1 with q | q
  · rw [q, e1]
  · rw [q, e2]
theorem t21 {sl ln S L N : Int} {T : ByteArray} (h : InvR sl ln S L T N) : Value.bool (L != sl && L != 0 && L != 2) = .bool false := by
  rcases h.2.1 with q | q | q <;> subst q <;> simp
theorem t23 {sl ln S L N : Int} {T : ByteArray} (h : InvR sl ln S L T N) : Value.bool (N != ln && N != 0) = .bool false := by
  rcases h.2.2.2 with q | q <;> subst q <;> simp

/-- What holds at the loop's head. -/
structure Scr (w wr : World) (B C len : Nat) (Z : Nat → Int) (sl ln : Int) (S L : Int) (T : ByteArray) (sp : Bool) (N mk gl : Int) (ns : ByteArray) (rs : Int) : Prop where
  j : JAt wr B S L T sp N mk gl ns rs
  row : 0 < len → wr.rowIs C 21 len (fun i => .int .i32 (Z i))
  ne : B ≠ C
  lo : w.heap.size ≤ B
  b : Below w.heap.size w wr
  inv : InvR sl ln S L T N

theorem Scr.step {w wr w5 : World} {B C len : Nat} {Z : Nat → Int} {sl ln S L : Int} {T : ByteArray} {sp : Bool} {N mk gl : Int} {ns : ByteArray} {rs : Int} (h : Scr w wr B C len Z sl ln S L T sp N mk gl ns rs) (g : Gb wr.drew w5) (E : Bool) (r : Int) :
    Scr w (((((((((w5.setCell ⟨B, 0, none⟩ (.int .u8 (rState S E r))).setCell ⟨B, 1, none⟩ (.int .u8 (rSlash S L E r))).setCell ⟨B, 2, none⟩ (.string (rTail T E r))).setCell ⟨B, 3, none⟩ (.bool sp)).setCell ⟨B, 4, none⟩ (.int .u8 (rLine N r))).setCell ⟨B, 5, none⟩ (.int .u8 mk)).setCell ⟨B, 6, none⟩ (.int .u8 gl)).setCell ⟨B, 7, none⟩ (.string ns)).setCell ⟨B, 8, none⟩ (.int .u8 rs))
      B C len Z sl ln (rState S E r) (rSlash S L E r) (rTail T E r) sp (rLine N r) mk gl ns rs := by
  have hj : JAt w5 B S L T sp N mk gl ns rs := h.j.drew.below g.b h.j.lt
  have ha : ∀ o, w.heap.size ≤ (⟨B, o, none⟩ : Addr).block := fun _ => h.lo
  have hb5 : Below w.heap.size w w5 := h.b.drew.trans (g.b.mono h.b.size)
  refine ⟨hj.put _ _ _ _ _ _ _ _ _, fun q => ?_, h.ne, h.lo, ((((((((hb5.setCell (ha 0) _).setCell (ha 1) _).setCell (ha 2) _).setCell (ha 3) _).setCell (ha 4) _).setCell (ha 5) _).setCell (ha 6) _).setCell (ha 7) _).setCell (ha 8) _, h.inv.step E r⟩
  have hr := h.row q
  have hr5 : w5.rowIs C 21 len (fun i => .int .i32 (Z i)) := hr.of_block (g.b.block C hr.lt)
  have hn : ∀ o, C ≠ (⟨B, o, none⟩ : Addr).block := fun _ e => h.ne e.symm
  exact ((((((((hr5.setOther (hn 0) _).setOther (hn 1) _).setOther (hn 2) _).setOther (hn 3) _).setOther (hn 4) _).setOther (hn 5) _).setOther (hn 6) _).setOther (hn 7) _).setOther (hn 8) _

set_option maxRecDepth 40000 in
set_option maxHeartbeats 8000000 in
theorem scr_main (st sl : Int) (tl : ByteArray) (sp : Bool) (ln mk gl : Int) (ns : ByteArray) (rs : Int) (x : Option Addr) (C len cap : Nat) (Z : Nat → Int) (h1 : tl.size ≤ 65536) (h2 : ns.size ≤ 65536) (hl : len ≤ 65536) (w : World)
    (HS : Hid (st = 4 ∨ st = 5)) (HT : Hid (tl = { data := #[] } ∨ tl = { data := #[92] }))
    (HB : Hid (Calls Try.prog 23 #[.int .u8 st, .int .u8 sl, .string tl, .bool sp, .int .u8 ln, .int .u8 mk, .int .u8 gl, .string ns, .int .u8 rs, .slice x len cap] w fun e w' => (∃ b, e = .returned (.bool b)) ∧ w = w'))
    (HC : Hid (Calls Try.prog 19 #[.slice x len cap] w fun e w' => ∃ y, e = .returned (.slice y len len) ∧ (0 < len → y = some ⟨w.heap.size, 0, none⟩ ∧ w'.rowIs w.heap.size 21 len (fun i => .int .i32 (Z i))) ∧ Below w.heap.size w w')) :
    Calls Try.prog 11 #[.int .u8 st, .int .u8 sl, .string tl, .bool sp, .int .u8 ln, .int .u8 mk, .int .u8 gl, .string ns, .int .u8 rs, .slice x len cap] w fun e w' => e = .returned (.bool true) ∧ Below w.heap.size w w' := by
  go_enter Try.func11, Try.ntmps11
  go_wp2_with fail
  refine HB.out.mono ?_
  clear HB
  rintro e w' ⟨⟨b, rfl⟩, rfl⟩
  cases b
  · go_wp2_with fail
    go_ret
    exact ⟨rfl, Below.refl _ _⟩
  go_upto_region 5 with fail
  go_cut [0, 53] (fun v0 v53 wx => v0 = .int .u8 st ∧ v53 = .bool false ∧ w = wx)
  case first =>
    go_wp2
    all_goals go_meet
    all_goals (go_light; refine ⟨by simp [*], ?_, rfl⟩; rcases HS.out with q | q <;> simp_all)
  obtain ⟨rfl, rfl, rfl⟩ := hcut
  go_upto_region 7 with fail
  go_cut [59] (fun v59 wx => v59 = .bool false ∧ w = wx)
  case first =>
    go_wp2
    all_goals go_meet
    all_goals (go_light; refine ⟨?_, rfl⟩; rcases HT.out with q | q <;> subst q <;> simp_all)
  obtain ⟨rfl, rfl⟩ := hcut
  go_wp2_with fail
  refine HC.out.mono ?_
  clear HC
  rintro e w1 ⟨y, rfl, HY, g1⟩
  have HY' : Hid (0 < len → y = some ⟨w.heap.size, 0, none⟩ ∧ w1.rowIs w.heap.size 21 len (fun i => .int .i32 (Z i))) := HY
  clear HY
  go_wp2_with fail
  refine (zzJs_any st sl tl sp ln mk gl ns rs _).mono ?_
  rintro e w2 ⟨rfl, g2⟩
  go_wp2_with fail
  have hs2 : w.heap.size ≤ w2.heap.size := Nat.le_trans g1.size g2.b.size
  have HR : Hid (0 < len → (w2.alloc (.cells #[.int .u8 st, .int .u8 sl, .string tl, .bool sp, .int .u8 ln, .int .u8 mk, .int .u8 gl, .string ns, .int .u8 rs] 28)).rowIs w.heap.size 21 len (fun i => .int .i32 (Z i))) := fun q => (by
    have h := (HY'.out q).2
    exact (h.of_block (g2.b.block _ h.lt)).alloc _)
  have HNE : Hid (0 < len → w2.heap.size ≠ w.heap.size) := fun q => (by
    have h := (HY'.out q).2.lt
    have := g2.b.size
    omega)
  have HB2 : Hid (Below w.heap.size w w2) := g1.trans (g2.b.mono g1.size)
  clear g1 g2
  by_cases hl0 : len = 0
  · subst hl0
    clear HR HNE HY'
    go_wp2
    refine wp_loop_rounds 1 ?_
    rw [rounds_succ]
    go_wp2
    go_ret
    exact ⟨rfl, HB2.out.alloc hs2 _⟩
  obtain ⟨rfl, _⟩ := HY'.out (by omega)
  have hne : w2.heap.size ≠ w.heap.size := HNE.out (by omega)
  clear HY' HNE
  go_loopg [22] len (fun g i wr => ∃ (k : Nat) (S L : Int) (T : ByteArray) (N : Int), k ≤ len ∧ g = len - k ∧ i = .int .i64 k ∧ Scr w wr w2.heap.size w.heap.size len Z sl ln S L T sp N mk gl ns rs)
  case atStart =>
    refine ⟨0, st, sl, tl, ln, Nat.zero_le _, rfl, rfl, ⟨?_, HR.out, hne, hs2, HB2.out.alloc hs2 _, ?_⟩⟩
    · exact blk_alloc_new _ _
    · exact ⟨Or.inr HS.out, Or.inl rfl, HT.out, Or.inl rfl⟩
  case round =>
    obtain ⟨k, S, L, T, N, hk, rfl, rfl, hscr⟩ := hrel
    clear HR HB2 HS HT
    by_cases hlt : k < len
    · have hz := hscr.j.lt
      have hcr : wr.cell? ⟨w.heap.size, k, none⟩ = some (.int .i32 (Z k)) := (hscr.row (by omega)).cell hlt
      have c0 := hscr.j.c0
      have c1 := hscr.j.c1
      have c2 := hscr.j.c2
      have c3 := hscr.j.c3
      have c4 := hscr.j.c4
      have c5 := hscr.j.c5
      have c6 := hscr.j.c6
      have c7 := hscr.j.c7
      have c8 := hscr.j.c8
      have cf := hscr.j.frozen
      go_upto_region 14 with fail
      go_cut [] (fun wx => ∃ (S L : Int) (T : ByteArray) (N : Int), Scr w wx w2.heap.size w.heap.size len Z sl ln S L T sp N mk gl ns rs)
      case first =>
        go_region_with (go_at_call 21; refine (zzRegexp_any S L T sp N mk gl ns rs (Z k) _).mono ?_; rintro e w5 ⟨rfl, g5⟩; have hj5 := hscr.j.drew.below g5.b hscr.j.lt; have f0 := hj5.c0; have f1 := hj5.c1; have f2 := hj5.c2; have f3 := hj5.c3; have f4 := hj5.c4; have f5 := hj5.c5; have f6 := hj5.c6; have f7 := hj5.c7; have f8 := hj5.c8; have ff := hj5.frozen; have hz5 := hj5.lt; clear hj5)
        all_goals
          go_wp2_with fail
          go_meet
          exact ⟨_, _, _, _, hscr.step g5 _ _⟩
      obtain ⟨S', L', T', N', hs⟩ := hcut
      clear c0 c1 c2 c3 c4 c5 c6 c7 c8 cf hz hcr hscr
      have d0 := hs.j.c0
      have d1 := hs.j.c1
      have d2 := hs.j.c2
      have d3 := hs.j.c3
      have d4 := hs.j.c4
      have d5 := hs.j.c5
      have d6 := hs.j.c6
      have d7 := hs.j.c7
      have d8 := hs.j.c8
      have HI : Hid (InvR sl ln S' L' T' N') := hs.inv
      go_upto_region 17 with fail
      go_cut [124] (fun v wx => v = .bool false ∧ wc = wx)
      case first =>
        go_wp2
        all_goals go_meet
        all_goals first | exact ⟨t17 HI.out ‹¬S' = 0› ‹¬S' = 4›, rfl⟩ | exact ⟨rfl, rfl⟩
      obtain ⟨rfl, rfl⟩ := hcut
      go_upto_region 19 with fail
      go_cut [132] (fun v wx => v = .bool false ∧ wc = wx)
      case first =>
        go_wp2
        all_goals go_meet
        all_goals first | exact ⟨t19 HI.out, rfl⟩ | exact ⟨rfl, rfl⟩
      obtain ⟨rfl, rfl⟩ := hcut
      go_upto_region 21 with fail
      go_cut [146] (fun v wx => v = .bool false ∧ wc = wx)
      case first =>
        go_wp2
        all_goals go_meet
        all_goals first | exact ⟨t21 HI.out, rfl⟩ | exact ⟨rfl, rfl⟩
      obtain ⟨rfl, rfl⟩ := hcut
      go_upto_region 23 with fail
      go_cut [155] (fun v wx => v = .bool false ∧ wc = wx)
      case first =>
        go_wp2
        all_goals go_meet
        all_goals first | exact ⟨t23 HI.out, rfl⟩ | exact ⟨rfl, rfl⟩
      obtain ⟨rfl, rfl⟩ := hcut
      go_wp2
      go_roundg (len - (k + 1))
      case measure => omega
      case rel => exact ⟨k + 1, _, _, _, _, by omega, rfl, by go_num, hs⟩
    · go_wp2
      go_ret
      exact ⟨rfl, hscr.b⟩
end Go.Proofs.Qxb6602033a.Js
