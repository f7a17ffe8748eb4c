import Derived.Test.Qxb6602033aJsB
namespace Go.Proofs.Qxb6602033a.Js
open Go.RowKit
set_option linter.unusedVariables false

theorem zzQuoted_hid (st sl : Int) (tl : ByteArray) (sp : Bool) (ln mk gl : Int) (ns : ByteArray) (rs r : Int) (w : World) :
    Calls Try.prog 15 #[.agg #[.int .u8 st, .int .u8 sl, .string tl, .bool sp, .int .u8 ln, .int .u8 mk, .int .u8 gl, .string ns, .int .u8 rs], .int .i32 r] w fun e w' =>
      ∃ (S L : Int) (T : ByteArray) (N M : Int), e = .returned (.agg #[.int .u8 S, .int .u8 L, .string T, .bool sp, .int .u8 N, .int .u8 M, .int .u8 gl, .string ns, .int .u8 rs]) ∧
        Hid (S = qState st (tl.toList == [92]) (tl.toList == [13]) r) ∧ Hid (L = qSlash st sl mk (tl.toList == [92]) (tl.toList == [13]) r) ∧ Hid (T = qTail tl (tl.toList == [92]) (tl.toList == [13]) r) ∧
        Hid (N = qLine ln (tl.toList == [92]) (tl.toList == [13]) r) ∧ Hid (M = qMark st mk (tl.toList == [92]) (tl.toList == [13]) r) ∧ Gb w w' :=
  (zzQuoted_any st sl tl sp ln mk gl ns rs r w).mono fun e w' h => ⟨_, _, _, _, _, h.1, rfl, rfl, rfl, rfl, rfl, h.2⟩

set_option maxRecDepth 40000 in
set_option maxHeartbeats 8000000 in
theorem lawQF_main (st sl : Int) (tl : ByteArray) (sp : Bool) (ln mk gl : Int) (ns : ByteArray) (rs r : Int) (h1 : tl.size ≤ 65536) (h2 : ns.size ≤ 65536) (w : World)
    (hb : Calls Try.prog 14 #[.int .u8 st, .int .u8 sl, .string tl, .bool sp, .int .u8 ln, .int .u8 mk, .int .u8 gl, .string ns, .int .u8 rs, .int .i32 r] w fun e w' => (∃ b, e = .returned (.bool b)) ∧ w = w') :
    Calls Try.prog 6 #[.int .u8 st, .int .u8 sl, .string tl, .bool sp, .int .u8 ln, .int .u8 mk, .int .u8 gl, .string ns, .int .u8 rs, .int .i32 r] w fun e w' => e = .returned (.bool true) ∧ Gb w w' := by
  have HB : Hid (Calls Try.prog 14 #[.int .u8 st, .int .u8 sl, .string tl, .bool sp, .int .u8 ln, .int .u8 mk, .int .u8 gl, .string ns, .int .u8 rs, .int .i32 r] w fun e w' => (∃ b, e = .returned (.bool b)) ∧ w = w') := hb
  clear hb
  go_enter Try.func6, Try.ntmps6
  go_wp2_with fail
  refine HB.out.mono ?_
  clear HB
  rintro e w' ⟨⟨b, rfl⟩, rfl⟩
  cases b
  · go_wp2_with fail
    go_ret
    exact ⟨rfl, Gb.refl _⟩
  go_wp2_with fail
  refine (zzJs_any st sl tl sp ln mk gl ns rs _).mono ?_
  rintro e w1 ⟨rfl, g1⟩
  go_wp2_with fail
  refine (zzQuoted_hid st sl tl sp ln mk gl ns rs r _).mono ?_
  rintro e w2 ⟨S, L, T, N, M, rfl, HS, HL, HT, HN, HM, g2⟩
  have G := g1.trans g2
  clear g1 g2
  go_upto_region 6 with fail
  go_cut [9, 22] (fun v9 v22 wx => v9 = .int .i32 r ∧ (∃ K, v22 = .bool K ∧ Hid (K = qCons (tl.toList == [92]) (tl.toList == [13]) r)) ∧ wx.cell? ⟨w2.heap.size, 0, none⟩ = some (.int .u8 S) ∧ wx.cell? ⟨w2.heap.size, 1, none⟩ = some (.int .u8 L) ∧ wx.cell? ⟨w2.heap.size, 2, none⟩ = some (.string T) ∧ wx.cell? ⟨w2.heap.size, 3, none⟩ = some (.bool sp) ∧ wx.cell? ⟨w2.heap.size, 4, none⟩ = some (.int .u8 N) ∧ wx.cell? ⟨w2.heap.size, 5, none⟩ = some (.int .u8 M) ∧ wx.cell? ⟨w2.heap.size, 6, none⟩ = some (.int .u8 gl) ∧ wx.cell? ⟨w2.heap.size, 7, none⟩ = some (.string ns) ∧ wx.cell? ⟨w2.heap.size, 8, none⟩ = some (.int .u8 rs) ∧ w2.heap.size < wx.heap.size ∧ Gb w wx)
  case first =>
    go_wp2
    all_goals go_meet
    all_goals (go_light; refine ⟨by simp [*], ⟨_, rfl, ?_⟩, ?_⟩; (show _ = _; simp [qCons, *]); simp; exact G.alloc _ _)
  obtain ⟨rfl, ⟨K, rfl, HK⟩, c0, c1, c2, c3, c4, c5, c6, c7, c8, hz, G2⟩ := hcut
  clear G
  go_upto_if 77 with fail
  go_cut [23] (fun v23 wx => (∃ Q, v23 = .int .i32 Q ∧ Hid (Q = qQuote st)) ∧ wc = wx)
  case first =>
    go_wp2
    all_goals go_meet
    all_goals (go_light; refine ⟨⟨_, rfl, ?_⟩, rfl⟩; show _ = _; simp_all [qQuote])
  obtain ⟨⟨Q, rfl, HQ⟩, rfl⟩ := hcut
  go_upto_region 10 with fail
  go_cut [9, 22, 23, 24] (fun v9 v22 v23 v24 wx => v9 = .int .i32 r ∧ v22 = .bool K ∧ v23 = .int .i32 Q ∧ (∃ A, v24 = .bool A ∧ Hid (A = qCloses st (tl.toList == [92]) (tl.toList == [13]) r)) ∧ wc = wx)
  case first =>
    go_wp2
    all_goals go_meet
    all_goals (go_light; refine ⟨by simp [*], by simp [*], by simp [*], ⟨_, rfl, ?_⟩, rfl⟩; have aHK := HK.out; have aHQ := HQ.out; clear HK HQ; show _ = _; simp_all [qCloses])
  obtain ⟨rfl, rfl, rfl, ⟨A, rfl, HA⟩, rfl⟩ := hcut
  go_upto_region 11 with fail
  go_cut [9, 22, 25] (fun v9 v22 v25 wx => v9 = .int .i32 r ∧ v22 = .bool K ∧ (∃ B, v25 = .bool B ∧ Hid (B = qBreaks (tl.toList == [92]) (tl.toList == [13]) r)) ∧ wc = wx)
  case first =>
    go_wp2
    all_goals go_meet
    all_goals (go_light; refine ⟨by simp [*], by simp [*], ⟨_, rfl, ?_⟩, rfl⟩; have aHK := HK.out; clear HK; show _ = _; simp_all [qBreaks])
  obtain ⟨rfl, rfl, ⟨B, rfl, HB⟩, rfl⟩ := hcut
  go_upto_region 12 with fail
  go_cut [9, 22, 26] (fun v9 v22 v26 wx => v9 = .int .i32 r ∧ v22 = .bool K ∧ (∃ D, v26 = .bool D ∧ Hid (D = qEscapes (tl.toList == [92]) (tl.toList == [13]) r)) ∧ wc = wx)
  case first =>
    go_wp2
    all_goals go_meet
    all_goals (go_light; refine ⟨by simp [*], by simp [*], ⟨_, rfl, ?_⟩, rfl⟩; have aHK := HK.out; clear HK; show _ = _; simp_all [qEscapes])
  obtain ⟨rfl, rfl, ⟨D, rfl, HD⟩, rfl⟩ := hcut
  go_upto_region 13 with fail
  go_cut [24, 27] (fun v24 v27 wx => v24 = .bool A ∧ (∃ F, v27 = .bool F ∧ Hid (F = qSpec st mk (tl.toList == [92]) (tl.toList == [13]) r)) ∧ wc = wx)
  case first =>
    go_wp2
    all_goals go_meet
    all_goals (go_light; refine ⟨by simp [*], ⟨_, rfl, ?_⟩, rfl⟩; have aHA := HA.out; clear HA; show _ = _; simp_all [qSpec])
  obtain ⟨rfl, ⟨F, rfl, HF⟩, rfl⟩ := hcut
  go_upto_if 108 with fail
  go_cut [9, 26, 28] (fun v9 v26 v28 wx => v9 = .int .i32 r ∧ v26 = .bool D ∧ (∃ T2, v28 = .string T2 ∧ Hid (T2 = qTail tl (tl.toList == [92]) (tl.toList == [13]) r)) ∧ wc = wx)
  case first =>
    go_wp2
    all_goals go_meet
    all_goals (go_light; refine ⟨by simp [*], by simp [*], ⟨_, rfl, ?_⟩, rfl⟩; have aHD := HD.out; clear HD; show _ = _; unfold qTail; rw [← aHD]; clear aHD; simp only [*, if_true, if_false, Bool.false_eq_true, bsl, crr, emp])
  obtain ⟨rfl, rfl, ⟨T2, rfl, HT2⟩, rfl⟩ := hcut
  go_upto_region 24 with fail
  go_cut [24, 25, 118] (fun v24 v25 v118 wx => v24 = .bool A ∧ v25 = .bool B ∧ (∃ X1, v118 = .bool X1 ∧ Hid (X1 = (qCloses st (tl.toList == [92]) (tl.toList == [13]) r || qBreaks (tl.toList == [92]) (tl.toList == [13]) r))) ∧ wc = wx)
  case first =>
    go_wp2
    all_goals go_meet
    all_goals (go_light; refine ⟨by simp [*], by simp [*], ⟨_, rfl, ?_⟩, rfl⟩; have aHA := HA.out; have aHB := HB.out; clear HA HB; show _ = _; simp_all [])
  obtain ⟨rfl, rfl, ⟨X1, rfl, HX1⟩, rfl⟩ := hcut
  go_upto_if 118 with fail
  go_cut [29] (fun v29 wx => (∃ S2, v29 = .int .u8 S2 ∧ Hid (S2 = qState st (tl.toList == [92]) (tl.toList == [13]) r)) ∧ wc = wx)
  case first =>
    go_wp2
    all_goals go_meet
    all_goals (go_light; refine ⟨⟨_, rfl, ?_⟩, rfl⟩; have aHX1 := HX1.out; clear HX1; show _ = _; simp_all [qState])
  obtain ⟨⟨S2, rfl, HS2⟩, rfl⟩ := hcut
  go_upto_region 27 with fail
  go_cut [27, 25, 123] (fun v27 v25 v123 wx => v27 = .bool F ∧ v25 = .bool B ∧ (∃ X2, v123 = .bool X2 ∧ Hid (X2 = (qSpec st mk (tl.toList == [92]) (tl.toList == [13]) r || qBreaks (tl.toList == [92]) (tl.toList == [13]) r))) ∧ wc = wx)
  case first =>
    go_wp2
    all_goals go_meet
    all_goals (go_light; refine ⟨by simp [*], by simp [*], ⟨_, rfl, ?_⟩, rfl⟩; have aHF := HF.out; have aHB := HB.out; clear HF HB; show _ = _; simp_all [])
  obtain ⟨rfl, rfl, ⟨X2, rfl, HX2⟩, rfl⟩ := hcut
  go_upto_if 123 with fail
  go_cut [24, 30] (fun v24 v30 wx => v24 = .bool A ∧ (∃ L2, v30 = .int .u8 L2 ∧ Hid (L2 = qSlash st sl mk (tl.toList == [92]) (tl.toList == [13]) r)) ∧ wc = wx)
  case first =>
    go_wp2
    all_goals go_meet
    all_goals (go_light; refine ⟨by simp [*], ⟨_, rfl, ?_⟩, rfl⟩; have aHX2 := HX2.out; have aHA := HA.out; clear HX2 HA; show _ = _; simp_all [qSlash])
  obtain ⟨rfl, ⟨L2, rfl, HL2⟩, rfl⟩ := hcut
  go_upto_if 126 with fail
  go_cut [25, 31] (fun v25 v31 wx => v25 = .bool B ∧ (∃ N2, v31 = .int .u8 N2 ∧ Hid (N2 = qLine ln (tl.toList == [92]) (tl.toList == [13]) r)) ∧ wc = wx)
  case first =>
    go_wp2
    all_goals go_meet
    all_goals (go_light; refine ⟨by simp [*], ⟨_, rfl, ?_⟩, rfl⟩; have aHB := HB.out; clear HB; show _ = _; simp_all [qLine])
  obtain ⟨rfl, ⟨N2, rfl, HN2⟩, rfl⟩ := hcut
  go_upto_region 35 with fail
  go_cut [27, 25, 131] (fun v27 v25 v131 wx => v27 = .bool F ∧ v25 = .bool B ∧ (∃ X3, v131 = .bool X3 ∧ Hid (X3 = (qSpec st mk (tl.toList == [92]) (tl.toList == [13]) r || qBreaks (tl.toList == [92]) (tl.toList == [13]) r))) ∧ wc = wx)
  case first =>
    go_wp2
    all_goals go_meet
    all_goals (go_light; refine ⟨by simp [*], by simp [*], ⟨_, rfl, ?_⟩, rfl⟩; have aHF := HF.out; have aHB := HB.out; clear HF HB; show _ = _; simp_all [])
  obtain ⟨rfl, rfl, ⟨X3, rfl, HX3⟩, rfl⟩ := hcut
  go_upto_if 131 with fail
  go_cut [32] (fun v32 wx => (∃ M2, v32 = .int .u8 M2 ∧ Hid (M2 = qMark st mk (tl.toList == [92]) (tl.toList == [13]) r)) ∧ wc = wx)
  case first =>
    go_wp2
    all_goals go_meet
    all_goals (go_light; refine ⟨⟨_, rfl, ?_⟩, rfl⟩; have aHX3 := HX3.out; clear HX3; show _ = _; simp_all [qMark])
  obtain ⟨⟨M2, rfl, HM2⟩, rfl⟩ := hcut
  obtain rfl : S = S2 := HS.out.trans HS2.out.symm
  obtain rfl : L = L2 := HL.out.trans HL2.out.symm
  obtain rfl : T = T2 := HT.out.trans HT2.out.symm
  obtain rfl : N = N2 := HN.out.trans HN2.out.symm
  obtain rfl : M = M2 := HM.out.trans HM2.out.symm
  clear HS HL HT HN HM HS2 HL2 HT2 HN2 HM2 HK HQ HA HB HD HF HX1 HX2 HX3
  go_wp2
  go_ret
  exact ⟨rfl, G2.alloc _ _⟩

set_option maxHeartbeats 1000000 in
theorem lawQF_long (st sl : Int) (tl : ByteArray) (sp : Bool) (ln mk gl : Int) (ns : ByteArray) (rs r : Int) (h1 : tl.size ≤ maxLen) (h2 : ns.size ≤ maxLen) (h : 65536 < tl.size ∨ (tl.size ≤ 65536 ∧ 65536 < ns.size)) (w : World) :
    Calls Try.prog 6 #[.int .u8 st, .int .u8 sl, .string tl, .bool sp, .int .u8 ln, .int .u8 mk, .int .u8 gl, .string ns, .int .u8 rs, .int .i32 r] w fun e w' => e = .returned (.bool true) ∧ Gb w w' := by
  have HB : Hid (Calls Try.prog 14 #[.int .u8 st, .int .u8 sl, .string tl, .bool sp, .int .u8 ln, .int .u8 mk, .int .u8 gl, .string ns, .int .u8 rs, .int .i32 r] w fun e w' => (∃ b, e = .returned (.bool b)) ∧ w = w') := bytes14_any st sl tl sp ln mk gl ns rs r h1 h2 w
  unfold maxLen at h1 h2
  rcases h with h | ⟨h, h'⟩
  all_goals
    go_enter Try.func6, Try.ntmps6
    go_wp2_with fail
    refine HB.out.mono ?_
    clear HB
    rintro e w' ⟨⟨b, rfl⟩, rfl⟩
    cases b <;> (go_wp2_with fail; go_ret; exact ⟨rfl, Gb.refl _⟩)

theorem lawQF (st sl : Int) (tl : ByteArray) (sp : Bool) (ln mk gl : Int) (ns : ByteArray) (rs r : Int) (h1 : tl.size ≤ maxLen) (h2 : ns.size ≤ maxLen) (w : World) :
    Calls Try.prog 6 #[.int .u8 st, .int .u8 sl, .string tl, .bool sp, .int .u8 ln, .int .u8 mk, .int .u8 gl, .string ns, .int .u8 rs, .int .i32 r] w fun e w' => e = .returned (.bool true) ∧ Gb w w' := by
  by_cases k1 : 65536 < tl.size
  · exact lawQF_long st sl tl sp ln mk gl ns rs r h1 h2 (Or.inl k1) w
  by_cases k2 : 65536 < ns.size
  · exact lawQF_long st sl tl sp ln mk gl ns rs r h1 h2 (Or.inr ⟨by omega, k2⟩) w
  exact lawQF_main st sl tl sp ln mk gl ns rs r (by omega) (by omega) w (bytes14_any st sl tl sp ln mk gl ns rs r h1 h2 w)
end Go.Proofs.Qxb6602033a.Js
