import Derived.Test.Qxb6602033aJsR
namespace Go.Proofs.Qxb6602033a.Js
open Go.RowKit
set_option linter.unusedVariables false
set_option linter.unusedSimpArgs false

theorem zzRegexp_hid (st sl : Int) (tl : ByteArray) (sp : Bool) (ln mk gl : Int) (ns : ByteArray) (rs r : Int) (w : World) :
    Calls Try.prog 21 #[.agg #[.int .u8 st, .int .u8 sl, .string tl, .bool sp, .int .u8 ln, .int .u8 mk, .int .u8 gl, .string ns, .int .u8 rs], .int .i32 r] w fun e w' =>
      ∃ (S L : Int) (T : ByteArray) (N : Int), e = .returned (.agg #[.int .u8 S, .int .u8 L, .string T, .bool sp, .int .u8 N, .int .u8 mk, .int .u8 gl, .string ns, .int .u8 rs]) ∧
        Hid (S = rState st (tl.toList == [92]) r) ∧ Hid (L = rSlash st sl (tl.toList == [92]) r) ∧ Hid (T = rTail tl (tl.toList == [92]) r) ∧ Hid (N = rLine ln r) ∧ Gb w w' :=
  (zzRegexp_any st sl tl sp ln mk gl ns rs r w).mono fun e w' h => ⟨_, _, _, _, h.1, rfl, rfl, rfl, rfl, h.2⟩

set_option maxRecDepth 40000 in
set_option maxHeartbeats 8000000 in
theorem lawRF_main (st sl : Int) (tl : ByteArray) (sp : Bool) (ln mk gl : Int) (ns : ByteArray) (rs r : Int) (h1 : tl.size ≤ 65536) (h2 : ns.size ≤ 65536) (w : World)
    (HB : Hid (Calls Try.prog 20 #[.int .u8 st, .int .u8 sl, .string tl, .bool sp, .int .u8 ln, .int .u8 mk, .int .u8 gl, .string ns, .int .u8 rs, .int .i32 r] w fun e w' => (∃ b, e = .returned (.bool b)) ∧ w = w')) :
    Calls Try.prog 9 #[.int .u8 st, .int .u8 sl, .string tl, .bool sp, .int .u8 ln, .int .u8 mk, .int .u8 gl, .string ns, .int .u8 rs, .int .i32 r] w fun e w' => e = .returned (.bool true) ∧ Gb w w' := by
  go_enter Try.func9, Try.ntmps9
  go_wp2_with fail
  refine HB.out.mono ?_
  clear HB
  rintro e w' ⟨⟨b, rfl⟩, rfl⟩
  cases b
  · go_wp2_with fail
    go_ret
    exact ⟨rfl, Gb.refl _⟩
  go_wp2_with fail
  refine (zzJs_any st sl tl sp ln mk gl ns rs _).mono ?_
  rintro e w1 ⟨rfl, g1⟩
  go_wp2_with fail
  refine (zzRegexp_hid st sl tl sp ln mk gl ns rs r _).mono ?_
  rintro e w2 ⟨S, L, T, N, rfl, HS, HL, HT, HN, g2⟩
  have G := g1.trans g2
  clear g1 g2
  go_upto_region 6 with fail
  go_cut [9, 22] (fun v9 v22 wx => v9 = .int .i32 r ∧ (∃ K, v22 = .bool K ∧ Hid (K = ltm r)) ∧ wx.cell? ⟨w2.heap.size, 0, none⟩ = some (.int .u8 S) ∧ wx.cell? ⟨w2.heap.size, 1, none⟩ = some (.int .u8 L) ∧ wx.cell? ⟨w2.heap.size, 2, none⟩ = some (.string T) ∧ wx.cell? ⟨w2.heap.size, 3, none⟩ = some (.bool sp) ∧ wx.cell? ⟨w2.heap.size, 4, none⟩ = some (.int .u8 N) ∧ wx.cell? ⟨w2.heap.size, 5, none⟩ = some (.int .u8 mk) ∧ wx.cell? ⟨w2.heap.size, 6, none⟩ = some (.int .u8 gl) ∧ wx.cell? ⟨w2.heap.size, 7, none⟩ = some (.string ns) ∧ wx.cell? ⟨w2.heap.size, 8, none⟩ = some (.int .u8 rs) ∧ w2.heap.size < wx.heap.size ∧ Gb w wx)
  case first =>
    go_wp2
    all_goals go_meet
    all_goals (go_light; refine ⟨by simp [*], ⟨_, rfl, ?_⟩, ?_⟩; (show _ = _; simp [ltm, *]); simp; exact G.alloc _ _)
  obtain ⟨rfl, ⟨K, rfl, HK⟩, c0, c1, c2, c3, c4, c5, c6, c7, c8, hz, G2⟩ := hcut
  clear G
  go_upto_region 7 with fail
  go_cut [22, 23] (fun v22 v23 wx => v22 = .bool K ∧ (∃ W, v23 = .bool W ∧ Hid (W = rSw (tl.toList == [92]) r)) ∧ wc = wx)
  case first =>
    go_wp2
    all_goals go_meet
    all_goals (go_light; refine ⟨by simp [*], ⟨_, rfl, ?_⟩, rfl⟩; have aHK := HK.out; clear HK; show _ = _; simp_all [rSw])
  obtain ⟨rfl, ⟨W, rfl, HW⟩, rfl⟩ := hcut
  go_upto_region 8 with fail
  go_cut [22, 23, 24] (fun v22 v23 v24 wx => v22 = .bool K ∧ v23 = .bool W ∧ (∃ C, v24 = .bool C ∧ Hid (C = rCnt (tl.toList == [92]) r)) ∧ wc = wx)
  case first =>
    go_wp2
    all_goals go_meet
    all_goals (go_light; refine ⟨by simp [*], by simp [*], ⟨_, rfl, ?_⟩, rfl⟩; have aHK := HK.out; have aHW := HW.out; clear HK HW; show _ = _; simp_all [rCnt])
  obtain ⟨rfl, rfl, ⟨C, rfl, HC⟩, rfl⟩ := hcut
  go_upto_region 11 with fail
  go_cut [9, 24, 26, 27] (fun v9 v24 v26 v27 wx => v9 = .int .i32 r ∧ v24 = .bool C ∧ v26 = .bool (st == 4) ∧ (∃ A, v27 = .bool A ∧ Hid (A = rCloses st (tl.toList == [92]) r)) ∧ wc = wx)
  case first =>
    go_wp2
    all_goals go_meet
    all_goals (go_light; refine ⟨by simp [*], by simp [*], by simp [*], ⟨_, rfl, ?_⟩, rfl⟩; have aHC := HC.out; clear HC; show _ = _; simp_all [rCloses])
  obtain ⟨rfl, rfl, rfl, ⟨A, rfl, HA⟩, rfl⟩ := hcut
  go_upto_region 13 with fail
  go_cut [22, 23, 107] (fun v22 v23 v107 wx => v22 = .bool K ∧ v23 = .bool W ∧ (∃ X1, v107 = .bool X1 ∧ Hid (X1 = (ltm r || rSw (tl.toList == [92]) r))) ∧ wc = wx)
  case first =>
    go_wp2
    all_goals go_meet
    all_goals (go_light; refine ⟨by simp [*], by simp [*], ⟨_, rfl, ?_⟩, rfl⟩; have aHK := HK.out; have aHW := HW.out; clear HK HW; show _ = _; simp_all [])
  obtain ⟨rfl, rfl, ⟨X1, rfl, HX1⟩, rfl⟩ := hcut
  go_upto_if 107 with fail
  go_cut [9, 28] (fun v9 v28 wx => v9 = .int .i32 r ∧ (∃ T2, v28 = .string T2 ∧ Hid (T2 = rTail tl (tl.toList == [92]) r)) ∧ wc = wx)
  case first =>
    go_wp2
    all_goals go_meet
    all_goals (go_light; refine ⟨by simp [*], ⟨_, rfl, ?_⟩, rfl⟩; have aHX1 := HX1.out; clear HX1; show _ = _; unfold rTail; rw [← aHX1]; clear aHX1; simp only [*, if_true, if_false, Bool.false_eq_true, bsl, crr, emp])
  obtain ⟨rfl, ⟨T2, rfl, HT2⟩, rfl⟩ := hcut
  go_upto_region 18 with fail
  go_cut [22, 27, 114] (fun v22 v27 v114 wx => v22 = .bool K ∧ v27 = .bool A ∧ (∃ X2, v114 = .bool X2 ∧ Hid (X2 = (ltm r || rCloses st (tl.toList == [92]) r))) ∧ wc = wx)
  case first =>
    go_wp2
    all_goals go_meet
    all_goals (go_light; refine ⟨by simp [*], by simp [*], ⟨_, rfl, ?_⟩, rfl⟩; have aHK := HK.out; have aHA := HA.out; clear HK HA; show _ = _; simp_all [])
  obtain ⟨rfl, rfl, ⟨X2, rfl, HX2⟩, rfl⟩ := hcut
  go_upto_if 114 with fail
  go_cut [9, 24, 25, 29] (fun v9 v24 v25 v29 wx => v9 = .int .i32 r ∧ v24 = .bool C ∧ v25 = .bool (st == 5) ∧ (∃ S2, v29 = .int .u8 S2 ∧ Hid (S2 = rState st (tl.toList == [92]) r)) ∧ wc = wx)
  case first =>
    go_wp2
    all_goals go_meet
    all_goals (go_light; refine ⟨by simp [*], by simp [*], by simp [*], ⟨_, rfl, ?_⟩, rfl⟩; have aHX2 := HX2.out; have aHC := HC.out; clear HX2 HC; show _ = _; unfold rState; rw [← aHX2, ← aHC]; clear aHX2 aHC; simp_all)
  obtain ⟨rfl, rfl, rfl, ⟨S2, rfl, HS2⟩, rfl⟩ := hcut
  go_upto_if 129 with fail
  go_cut [22, 27, 30] (fun v22 v27 v30 wx => v22 = .bool K ∧ v27 = .bool A ∧ (∃ L2, v30 = .int .u8 L2 ∧ Hid (L2 = rSlash st sl (tl.toList == [92]) r)) ∧ wc = wx)
  case first =>
    go_wp2
    all_goals go_meet
    all_goals (go_light; refine ⟨by simp [*], by simp [*], ⟨_, rfl, ?_⟩, rfl⟩; have aHK := HK.out; have aHA := HA.out; clear HK HA; show _ = _; unfold rSlash; rw [← aHK, ← aHA]; clear aHK aHA; simp_all)
  obtain ⟨rfl, rfl, ⟨L2, rfl, HL2⟩, rfl⟩ := hcut
  go_upto_if 132 with fail
  go_cut [22, 31] (fun v22 v31 wx => v22 = .bool K ∧ (∃ N2, v31 = .int .u8 N2 ∧ Hid (N2 = rLine ln r)) ∧ wc = wx)
  case first =>
    go_wp2
    all_goals go_meet
    all_goals (go_light; refine ⟨by simp [*], ⟨_, rfl, ?_⟩, rfl⟩; have aHK := HK.out; clear HK; show _ = _; unfold rLine; rw [← aHK]; clear aHK; simp_all)
  obtain ⟨rfl, ⟨N2, rfl, HN2⟩, rfl⟩ := hcut
  obtain rfl : S = S2 := HS.out.trans HS2.out.symm
  obtain rfl : L = L2 := HL.out.trans HL2.out.symm
  obtain rfl : T = T2 := HT.out.trans HT2.out.symm
  obtain rfl : N = N2 := HN.out.trans HN2.out.symm
  clear HS HL HT HN HS2 HL2 HT2 HN2 HK HW HC HA HX1 HX2
  go_wp2
  go_ret
  exact ⟨rfl, G2.alloc _ _⟩

set_option maxHeartbeats 1000000 in
theorem lawRF_long (st sl : Int) (tl : ByteArray) (sp : Bool) (ln mk gl : Int) (ns : ByteArray) (rs r : Int) (h1 : tl.size ≤ maxLen) (h2 : ns.size ≤ maxLen) (h : 65536 < tl.size ∨ (tl.size ≤ 65536 ∧ 65536 < ns.size)) (w : World) :
    Calls Try.prog 9 #[.int .u8 st, .int .u8 sl, .string tl, .bool sp, .int .u8 ln, .int .u8 mk, .int .u8 gl, .string ns, .int .u8 rs, .int .i32 r] w fun e w' => e = .returned (.bool true) ∧ Gb w w' := by
  have HB : Hid (Calls Try.prog 20 #[.int .u8 st, .int .u8 sl, .string tl, .bool sp, .int .u8 ln, .int .u8 mk, .int .u8 gl, .string ns, .int .u8 rs, .int .i32 r] w fun e w' => (∃ b, e = .returned (.bool b)) ∧ w = w') := bytes20_any st sl tl sp ln mk gl ns rs r h1 h2 w
  unfold maxLen at h1 h2
  rcases h with h | ⟨h, h'⟩
  all_goals
    go_enter Try.func9, Try.ntmps9
    go_wp2_with fail
    refine HB.out.mono ?_
    clear HB
    rintro e w' ⟨⟨b, rfl⟩, rfl⟩
    cases b <;> (go_wp2_with fail; go_ret; exact ⟨rfl, Gb.refl _⟩)

theorem lawRF (st sl : Int) (tl : ByteArray) (sp : Bool) (ln mk gl : Int) (ns : ByteArray) (rs r : Int) (h1 : tl.size ≤ maxLen) (h2 : ns.size ≤ maxLen) (w : World) :
    Calls Try.prog 9 #[.int .u8 st, .int .u8 sl, .string tl, .bool sp, .int .u8 ln, .int .u8 mk, .int .u8 gl, .string ns, .int .u8 rs, .int .i32 r] w fun e w' => e = .returned (.bool true) ∧ Gb w w' := by
  by_cases k1 : 65536 < tl.size
  · exact lawRF_long st sl tl sp ln mk gl ns rs r h1 h2 (Or.inl k1) w
  by_cases k2 : 65536 < ns.size
  · exact lawRF_long st sl tl sp ln mk gl ns rs r h1 h2 (Or.inr ⟨by omega, k2⟩) w
  exact lawRF_main st sl tl sp ln mk gl ns rs r (by omega) (by omega) w (bytes20_any st sl tl sp ln mk gl ns rs r h1 h2 w)
end Go.Proofs.Qxb6602033a.Js
