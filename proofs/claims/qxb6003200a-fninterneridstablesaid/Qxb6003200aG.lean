import Derived.Test.Qxb6003200aE
namespace Go.Proofs.Qxb6003200a.Intr
open Go.RowKit Go.Deep Go.Maps
open Go.Lib (bytesWorld Bytes)
set_option linter.unusedVariables false
set_option linter.unusedSimpArgs false

theorem cv (w : World) (s : ByteArray) : (convert 9 27 (.string s)).run Try.prog w = .ok (.slice (some ⟨w.heap.size, 0, none⟩) s.size (grownCap w s.size 0 5)) (bytesWorld w 5 s) :=
  Go.Lib.run_convert_string_bytes w 9 27 5 s Try.underlying9 Try.underlying27 Try.underlying5

theorem St.drew {w wr : World} {I R len : Nat} {S : Nat → ByteArray} {f : Nat → Int} {F L : List Key} {k : Nat} (h : St w wr I R len S f F L k) : St w wr.drew I R len S f F L k :=
  ⟨h.inn.drew, fun q => ⟨(h.keys q).1, (h.keys q).2.drew⟩, h.ids.drew, h.rank.drew, h.rlt, h.lo, h.bel.drew⟩
/-- The interner asked for key s, the answer told by the last list. -/
theorem ask_at {w wr : World} {I R len : Nat} {S : Nat → ByteArray} {f : Nat → Int} {F L : List Key} {k : Nat} (h : St w wr I R len S f F L k) (s : ByteArray) (v : Nat) (hv : at_ L s.data.toList = v) (hL : L.length ≤ 60000) (hs : s.size ≤ maxLen) :
    Calls Try.prog 17 #[.pointer (some ⟨I, 0, none⟩), .slice (some ⟨wr.heap.size, 0, none⟩) s.size (grownCap wr s.size 0 5)] (bytesWorld wr 5 s) fun e w' =>
      e = .returned (.int .i64 (v : Int)) ∧ St w w' I R len S f F (addK L s.data.toList) k :=
  (ask_any I (I + 2) L s wr h.inn hL hs).mono fun e w' q => ⟨by rw [q.1, hv], h.kept q.2.1 q.2.2⟩

set_option maxRecDepth 40000 in
set_option maxHeartbeats 8000000 in
theorem law_main (x : Option Addr) (len cap : Nat) (S : Nat → ByteArray) (ex : ByteArray) (w : World) (hl : len ≤ 512) (hx : ex.size ≤ 1048576) (hSz : Hid (∀ i, (S i).size ≤ maxLen))
    (HB : Hid (Calls Try.prog 18 #[.slice x len cap, .string ex] w fun e w' => (∃ b, e = .returned (.bool b)) ∧ w = w'))
    (HN : Hid (Calls Try.prog 9 #[.slice x len cap] w fun e w' => (∃ n, e = .returned (.int .i64 n)) ∧ w = w'))
    (HC : Hid (Calls Try.prog 11 #[.slice x len cap] w fun e w' => ∃ y, e = .returned (.slice y len len) ∧ (0 < len → y = some ⟨w.heap.size, 0, none⟩ ∧ w'.rowIs w.heap.size 9 len (fun i => .string (S i))) ∧ Below w.heap.size w w')) :
    Calls Try.prog 7 #[.slice x len cap, .string ex] w fun e w' => e = .returned (.bool true) ∧ Below w.heap.size w w' := by
  have hmk := run_make_row' (P := Try.prog) 32 3 (.int .i64 0) 8 Try.underlying32 info3 rfl .i64 .i64 len (by omega) (by omega)
  have hcv := cv
  go_enter Try.func7, Try.ntmps7
  go_wp2_with fail
  refine HB.out.mono ?_
  clear HB
  rintro e w' ⟨⟨b, rfl⟩, rfl⟩
  cases b
  · go_wp2_with fail
    go_ret
    exact ⟨rfl, Below.refl _ _⟩
  go_wp2_with fail
  refine HN.out.mono ?_
  clear HN
  rintro e w' ⟨⟨n, rfl⟩, rfl⟩
  by_cases hn : 1048576 - (ex.size : Int) < n
  · go_wp2_with fail
    go_ret
    exact ⟨rfl, Below.refl _ _⟩
  go_wp2_with fail
  refine HC.out.mono ?_
  clear HC
  rintro e w1 ⟨y, rfl, HY, b1⟩
  have HY' : Hid (0 < len → y = some ⟨w.heap.size, 0, none⟩ ∧ w1.rowIs w.heap.size 9 len (fun i => .string (S i))) := HY
  clear HY
  go_wp2_with fail
  refine (first_any y len len S w1 ⟨hSz.out, fun q => ⟨w.heap.size, 0, (HY'.out q).1, (HY'.out q).2.lt, fun i hi => by rw [Nat.zero_add]; exact (HY'.out q).2.cell hi⟩⟩ (by omega)).mono ?_
  rintro e w2 ⟨rfl, f, hf, r2, b2⟩
  have HF : Hid (IsFirst (fun i => (S i).data.toList) len f) := hf
  clear hf
  go_wp2_with fail
  refine (rank_any _ len f w2 r2 (by omega)).mono ?_
  rintro e w3 ⟨rfl, r3, b3⟩
  have HK3 : Hid (0 < len → w3.rowIs w.heap.size 9 len (fun i => .string (S i))) := fun q => (by
    have h := (HY'.out q).2
    have h2 := h.of_block (b2.block _ h.lt)
    exact h2.of_block (b3.block _ h2.lt))
  have HB3 : Hid (Below w.heap.size w w3) := (b1.trans (b2.mono b1.size)).trans (b3.mono (Nat.le_trans b1.size b2.size))
  have HR3 : Hid (w3.rowIs w2.heap.size 3 (len + 1) (rks f len)) := r3
  clear b1 b2 b3 r2 r3
  go_wp2_with fail
  clear hmk
  obtain ⟨F, HFd⟩ : ∃ F, Hid (F = U (fun i => (S i).data.toList) len) := ⟨_, rfl⟩
  have HFl : Hid (F.length ≤ 60000) := (by rw [HFd.out]; exact Nat.le_trans (length_U_le _ _) (by omega))
  go_loopg [9] len (fun g i wr => ∃ k : Nat, k ≤ len ∧ g = len - k ∧ i = .int .i64 k ∧ St w wr w3.heap.size w2.heap.size len S f F (U (fun i => (S i).data.toList) k) k)
  case atStart => exact ⟨0, Nat.zero_le _, rfl, rfl, st_start HK3.out HR3.out HB3.out⟩
  case round =>
    obtain ⟨k, hk, rfl, rfl, hst⟩ := hrel
    clear HK3 HB3 HR3
    by_cases hlt : k < len
    · obtain ⟨rfl, _⟩ := HY'.out (by omega)
      have hc1 : wr.cell? ⟨w.heap.size, k, none⟩ = some (.string (S k)) := (hst.keys (by omega)).2.cell hlt
      go_wp2_with fail
      refine (ask_at hst (S k) (at_ F (S k).data.toList) (by rw [HFd.out, at_U (fun i => (S i).data.toList) k len hlt]) (Nat.le_trans (length_U_le _ _) (by omega)) (hSz.out k)).mono ?_
      clear hc1
      rintro e w5 ⟨rfl, hst5⟩
      have c1 : w5.cell? ⟨w3.heap.size + 1, k, none⟩ = some (.int .i64 0) := by rw [hst5.ids.cell hlt]; simp [fill]
      have c2 := hst5.ids.frozen k
      go_wp2
      go_roundg (len - (k + 1))
      case measure => omega
      case rel => exact ⟨k + 1, by omega, rfl, by go_num, hst5.laid⟩
    · have hkl : len = k := by omega
      subst hkl
      have hst' : St w wr w3.heap.size w2.heap.size len S f F F len := by
        have h := hst
        rw [← HFd.out] at h
        exact h
      clear hst
      obtain ⟨wo, hwo⟩ : ∃ wo : World, wo = wr := ⟨_, rfl⟩
      subst hwo
      go_wp2_with fail
      go_loopg [10] len (fun g i wr => ∃ k : Nat, k ≤ len ∧ g = k ∧ ((k = 0 ∧ i = .int .i64 (-1)) ∨ ∃ m : Nat, k = m + 1 ∧ i = .int .i64 (m : Int)) ∧ St w wr w3.heap.size w2.heap.size len S f F F len)
      case atStart =>
        refine ⟨len, Nat.le_refl _, rfl, ?_, hst'⟩
        by_cases h0 : len = 0
        · exact Or.inl ⟨h0, by rw [h0]; rfl⟩
        · refine Or.inr ⟨len - 1, by omega, ?_⟩
          have e : ((len : Int) - 1) = ((len - 1 : Nat) : Int) := by omega
          rw [e]
      case round =>
        obtain ⟨k, hk2, rfl, hcase, hst⟩ := hrel
        clear hst'
        rcases hcase with ⟨rfl, rfl⟩ | ⟨m, rfl, rfl⟩
        · have hcw : wr.cell? ⟨w2.heap.size, len, none⟩ = some (.int .i64 (F.length : Int)) := by
            rw [hst.rank.cell (by omega)]
            simp only [rks]
            rw [if_pos (Nat.le_refl _), cnt_U HF.out len (Nat.le_refl _), ← HFd.out]
          have HST : Hid (St w wr w3.heap.size w2.heap.size len S f F F len) := hst
          have HFE : Hid (∀ i, i < len → (S i).data.toList ∈ F) := fun i hi => (by rw [HFd.out]; exact mem_U.2 ⟨i, hi, rfl⟩)
          have HEM : Hid ((∀ i, i < len → (S i).data.toList ≠ ex.data.toList) → ex.data.toList ∉ F) := fun h q => (by
            rw [HFd.out] at q
            obtain ⟨j, hj, e⟩ := mem_U.1 q
            exact h j hj e)
          have HFl2 : Hid ((addK F ex.data.toList).length ≤ 60000) := (by
            have h : F.length ≤ 512 := (by rw [HFd.out]; exact Nat.le_trans (length_U_le _ _) hl)
            show (addK F ex.data.toList).length ≤ 60000
            unfold addK
            split
            · omega
            · simp; omega)
          clear hst HF HFd hk hk2
          obtain ⟨wq, hwq⟩ : ∃ wq : World, wq = wr := ⟨_, rfl⟩
          subst hwq
          go_wp2_with fail
          clear hcw
          go_loopg [11, 12] len (fun g v j wr => wq = wr ∧ ∃ k : Nat, k ≤ len ∧ g = len - k ∧ v = .int .i64 (F.length : Int) ∧ j = .int .i64 k ∧ Hid (∀ i, i < k → (S i).data.toList ≠ ex.data.toList))
          case atStart => exact ⟨rfl, 0, Nat.zero_le _, rfl, rfl, rfl, fun i hi => absurd hi (Nat.not_lt_zero _)⟩
          case round =>
            obtain ⟨rfl, k, hk, rfl, rfl, rfl, HNE⟩ := hrel
            by_cases hlt2 : k < len
            · obtain ⟨rfl, _⟩ := HY'.out (by omega)
              have hc1 : wq.cell? ⟨w.heap.size, k, none⟩ = some (.string (S k)) := (HST.out.keys (by omega)).2.cell hlt2
              by_cases he : (S k).data.toList = ex.data.toList
              · have hE : ((S k).toList == ex.toList) = true := by rw [bytes_beq]; simpa using he
                have hc2 : wq.cell? ⟨w3.heap.size + 1, k, none⟩ = some (.int .i64 (at_ F ex.data.toList : Int)) := by rw [HST.out.ids.cell hlt2]; simp [fill, hlt2, he]
                have HE : Hid ((S k).data.toList = ex.data.toList) := he
                clear he
                go_wp2_with fail
                refine (ask_at HST.out ex (at_ F ex.data.toList) rfl HFl.out (by unfold maxLen; omega)).mono ?_
                rintro e w5 ⟨rfl, hs5⟩
                go_wp2_with fail
                refine (ask_at hs5 ex (at_ F ex.data.toList) (at_addK_self _ _) HFl2.out (by unfold maxLen; omega)).mono ?_
                rintro e w6 ⟨rfl, hs6⟩
                have bel := hs6.bel
                clear hs5 hs6 HST
                go_wp2
                go_ret
                exact ⟨rfl, bel⟩
              · have hE : ((S k).toList == ex.toList) = false := by rw [bytes_beq]; simpa using he
                have HE : Hid (¬ (S k).data.toList = ex.data.toList) := he
                clear he
                go_wp2_with fail
                go_roundg (len - (k + 1))
                case measure => omega
                case rel => exact ⟨rfl, k + 1, by omega, rfl, rfl, by go_num, fun i hi => (by
                  by_cases e : i = k
                  · subst e; exact HE.out
                  · exact HNE.out i (by omega))⟩
            · have hE : ((at_ F ex.data.toList : Int) == (F.length : Int)) = true := by
                rw [at_not_mem (HEM.out (fun i hi => HNE.out i (by omega)))]; simp
              · go_wp2_with fail
                refine (ask_at HST.out ex (at_ F ex.data.toList) rfl HFl.out (by unfold maxLen; omega)).mono ?_
                rintro e w5 ⟨rfl, hs5⟩
                go_wp2_with fail
                refine (ask_at hs5 ex (at_ F ex.data.toList) (at_addK_self _ _) HFl2.out (by unfold maxLen; omega)).mono ?_
                rintro e w6 ⟨rfl, hs6⟩
                have bel := hs6.bel
                clear hs5 hs6 HST
                go_wp2
                go_ret
                exact ⟨rfl, bel⟩
        · have hlt : m < len := by omega
          obtain ⟨rfl, _⟩ := HY'.out (by omega)
          have hc1 : wr.cell? ⟨w.heap.size, m, none⟩ = some (.string (S m)) := (hst.keys (by omega)).2.cell hlt
          have hc2 : wr.cell? ⟨w3.heap.size + 1, m, none⟩ = some (.int .i64 (at_ F (S m).data.toList : Int)) := by rw [hst.ids.cell hlt]; simp [fill, hlt]
          have hc3 : (bytesWorld wr.drew 5 (S m)).cell? ⟨w3.heap.size + 1, m, none⟩ = some (.int .i64 (at_ F (S m).data.toList : Int)) := (Go.Lib.bytesWorld_old wr.drew 5 (S m) ⟨w3.heap.size + 1, m, none⟩ hst.ids.lt).trans hc2
          have i1 : (m : Int) < (len : Int) := by omega
          have HM : Hid ((S m).data.toList ∈ F) := (by rw [HFd.out]; exact mem_U.2 ⟨m, hlt, rfl⟩)
          go_upto_region 17 with fail
          go_cut [76] (fun v wx => v = .bool false ∧ St w wx w3.heap.size w2.heap.size len S f F F len)
          case first =>
            go_region_with (go_at_call 17; refine (ask_at hst.drew (S m) (at_ F (S m).data.toList) rfl HFl.out (hSz.out m)).mono ?_; rintro e w5 ⟨rfl, hst5⟩; have d1 : w5.cell? ⟨w3.heap.size + 1, m, none⟩ = some (.int .i64 (at_ F (S m).data.toList : Int)) := (by rw [hst5.ids.cell hlt]; simp [fill, hlt]))
            all_goals
              go_wp2_with fail
              go_meet
              rw [addK_mem HM.out] at hst5
              exact ⟨by simp, hst5⟩
          obtain ⟨rfl, hst2⟩ := hcut
          clear hc1 hc2 hc3 hst
          go_wp2
          go_roundg m
          case measure => omega
          case rel =>
            refine ⟨m, by omega, rfl, ?_, hst2⟩
            cases m with
            | zero => exact Or.inl ⟨rfl, by rfl⟩
            | succ m => exact Or.inr ⟨m, rfl, by go_num⟩

set_option maxHeartbeats 2000000 in
theorem law_long (x : Option Addr) (len cap : Nat) (ex : ByteArray) (w : World) (hl : len ≤ maxLen) (hx : ex.size ≤ maxLen) (h : 512 < len ∨ (len ≤ 512 ∧ 1048576 < ex.size))
    (HB : Hid (Calls Try.prog 18 #[.slice x len cap, .string ex] w fun e w' => (∃ b, e = .returned (.bool b)) ∧ w = w')) :
    Calls Try.prog 7 #[.slice x len cap, .string ex] w fun e w' => e = .returned (.bool true) ∧ Below w.heap.size w w' := by
  unfold maxLen at hl hx
  rcases h with h | ⟨h, h'⟩
  all_goals
    go_enter Try.func7, Try.ntmps7
    go_wp2_with fail
    refine HB.out.mono ?_
    clear HB
    rintro e w' ⟨⟨b, rfl⟩, rfl⟩
    cases b <;> (go_wp2_with fail; go_ret; exact ⟨rfl, Below.refl _ _⟩)

theorem law_any (x : Option Addr) (len cap : Nat) (S : Nat → ByteArray) (ex : ByteArray) (w : World) (hl : len ≤ maxLen) (hx : ex.size ≤ maxLen) (hcap : x = none → len = 0 ∧ cap = 0) (hs : SRow w x len S) :
    Calls Try.prog 7 #[.slice x len cap, .string ex] w fun e w' => e = .returned (.bool true) ∧ Below w.heap.size w w' := by
  have HB := bytes18_any x len cap S ex w hl hx hs
  by_cases k1 : 512 < len
  · exact law_long x len cap ex w hl hx (Or.inl k1) HB
  by_cases k2 : 1048576 < ex.size
  · exact law_long x len cap ex w hl hx (Or.inr ⟨by omega, k2⟩) HB
  refine law_main x len cap S ex w (by omega) (by omega) hs.1 HB (strBytes_any x len cap S w hl hs) ?_
  cases x with
  | none =>
    obtain ⟨rfl, rfl⟩ := hcap rfl
    exact (clone_nil w).mono fun e w' h => ⟨_, h.1, fun q => absurd q (Nat.lt_irrefl _), h.2 ▸ Below.refl _ _⟩
  | some a => exact (clone_any a len cap S w hs (by omega)).mono fun e w' h => ⟨_, h.1, fun _ => ⟨rfl, h.2.1⟩, h.2.2⟩
end Go.Proofs.Qxb6003200a.Intr
