import Derived.Test.Qxb6003200aC
import Derived.Lib.LazyBuf
namespace Go.Proofs.Qxb6003200a.Intr
open Go.RowKit Go.Deep Go.Maps Go.Lib
set_option linter.unusedVariables false
set_option linter.unusedSimpArgs false

theorem info9 : (Try.prog.info? 9).map (fun i => (i.zero, i.size, i.bytes)) = some (some (.string { data := #[] }), 1, 16) := by kernel_rfl
theorem info3 : (Try.prog.info? 3).map (fun i => (i.zero, i.size, i.bytes)) = some (some (.int .i64 0), 1, 8) := by kernel_rfl
theorem q22 (w : World) (a : Option Addr) (n c : Nat) : (binOp .eql 22 (.slice a n c) (.slice none 0 0)).run Try.prog w = .ok (.bool a.isNone) w := Go.run_eql_slice_nil w _ _ a n c Try.underlying22

/-- A new row, k cells of it filled. -/
def fill (g : Nat → Value) (z : Value) (k : Nat) : Nat → Value := fun i => if i < k then g i else z
theorem fill_step {wr : World} {B t len k : Nat} {g : Nat → Value} {z : Value} (h : wr.rowIs B t len (fill g z k)) : (wr.setCell ⟨B, k, none⟩ (g k)).rowIs B t len (fill g z (k + 1)) := by
  refine (h.set k _).congr fun i _ => ?_
  simp only [fill]
  by_cases e : i = k
  · subst e; simp
  · rw [if_neg e]
    by_cases hlt : i < k
    · rw [if_pos hlt, if_pos (by omega)]
    · rw [if_neg hlt, if_neg (by omega)]

theorem clone_nil (w : World) : Calls Try.prog 11 #[.slice none 0 0] w fun e w' => e = .returned (.slice none 0 0) ∧ w = w' := by
  have q := q22
  go_enter Try.func11, Try.ntmps11
  go_wp2
  go_ret
  exact ⟨rfl, rfl⟩

set_option maxHeartbeats 1000000 in
theorem clone_any (x : Addr) (len cap : Nat) (S : Nat → ByteArray) (w : World) (H : Hid (SRow w (some x) len S)) (hl : len ≤ 65536) :
    Calls Try.prog 11 #[.slice (some x) len cap] w fun e w' => e = .returned (.slice (some ⟨w.heap.size, 0, none⟩) len len) ∧ w'.rowIs w.heap.size 9 len (fun i => .string (S i)) ∧ Below w.heap.size w w' := by
  have q := q22
  have hmk := run_make_row' (P := Try.prog) 22 9 (.string { data := #[] }) 16 Try.underlying22 info9 rfl .i64 .i64 len (by omega) (by omega)
  go_enter Try.func11, Try.ntmps11
  go_wp2
  clear q hmk
  go_loopg [4] len (fun g i wr => ∃ k : Nat, k ≤ len ∧ g = len - k ∧ i = .int .i64 k ∧ wr.rowIs w.heap.size 9 len (fill (fun i => .string (S i)) (.string { data := #[] }) k) ∧ Below w.heap.size w wr)
  case atStart => exact ⟨0, Nat.zero_le _, rfl, rfl, (World.rowIs_made w _ len 9).congr (fun j _ => by simp [fill]), (Below.refl _ _).alloc (Nat.le_refl _) _⟩
  case round =>
    obtain ⟨k, hk, rfl, rfl, hr, hb⟩ := hrel
    by_cases hlt : k < len
    · obtain ⟨b, off, hx, hbw, hcell⟩ := H.out.2 (by omega)
      injection hx with hx
      subst hx
      have hc1 : wr.cell? ⟨b, off + k, none⟩ = some (.string (S k)) := (hb.cell (p := ⟨b, off + k, none⟩) hbw).trans (hcell k hlt)
      have hc2 : wr.cell? ⟨w.heap.size, k, none⟩ = some (.string { data := #[] }) := by rw [hr.cell hlt]; simp [fill]
      have hf2 := hr.frozen k
      clear hcell
      go_wp2
      go_roundg (len - (k + 1))
      case measure => omega
      case rel => exact ⟨k + 1, by omega, rfl, by go_num, fill_step hr, hb.setCell (Nat.le_refl _) _⟩
    · obtain rfl : k = len := by omega
      go_wp2
      go_ret
      exact ⟨rfl, hr.congr (fun i hi => by simp [fill, hi]), hb⟩

/-- f is 'the first place of an equal key': of it we need when it is the key's own place. -/
def IsFirst (K : Nat → Key) (n : Nat) (f : Nat → Int) : Prop := ∀ i, i < n → (f i = (i : Int) ↔ ∀ j, j < i → K j ≠ K i)

def upd (f : Nat → Int) (k : Nat) (v : Int) : Nat → Int := fun i => if i = k then v else f i
theorem row_upd {wr : World} {B len k : Nat} {f : Nat → Int} (v : Int) (h : wr.rowIs B 3 len (fill (fun i => .int .i64 (f i)) (.int .i64 0) k)) :
    (wr.setCell ⟨B, k, none⟩ (.int .i64 v)).rowIs B 3 len (fill (fun i => .int .i64 (upd f k v i)) (.int .i64 0) (k + 1)) := by
  refine (h.set k _).congr fun i _ => ?_
  simp only [fill, upd]
  by_cases e : i = k
  · subst e; simp
  · rw [if_neg e]
    by_cases hlt : i < k
    · rw [if_pos hlt, if_pos (by omega), if_neg e]
    · rw [if_neg hlt, if_neg (by omega)]
theorem row_upd2 {wr : World} {B len k : Nat} {f : Nat → Int} (u v : Int) (h : wr.rowIs B 3 len (fill (fun i => .int .i64 (upd f k u i)) (.int .i64 0) (k + 1))) :
    (wr.setCell ⟨B, k, none⟩ (.int .i64 v)).rowIs B 3 len (fill (fun i => .int .i64 (upd f k v i)) (.int .i64 0) (k + 1)) := by
  refine (h.set k _).congr fun i _ => ?_
  simp only [fill, upd]
  by_cases e : i = k
  · subst e; simp
  · rw [if_neg e]
    by_cases hlt : i < k + 1
    · rw [if_pos hlt, if_pos hlt, if_neg e, if_neg e]
    · rw [if_neg hlt, if_neg hlt]
theorem first_new {K : Nat → Key} {k : Nat} {f : Nat → Int} (h : IsFirst K k f) (hn : ∀ i, i < k → K i ≠ K k) : IsFirst K (k + 1) (upd f k k) := by
  intro i hi
  unfold upd
  by_cases e : i = k
  · subst e; simp; exact hn
  · rw [if_neg e]; exact h i (by omega)
theorem first_old {K : Nat → Key} {k m : Nat} {f : Nat → Int} (h : IsFirst K k f) (hm : m < k) (he : K m = K k) : IsFirst K (k + 1) (upd f k m) := by
  intro i hi
  unfold upd
  by_cases e : i = k
  · subst e
    rw [if_pos rfl]
    constructor
    · intro q; omega
    · intro q; exact absurd he (q m hm)
  · rw [if_neg e]; exact h i (by omega)
theorem bytes_beq (a b : ByteArray) : (a.toList == b.toList) = decide (a.data.toList = b.data.toList) := by
  rw [ByteArray.toList_eq, ByteArray.toList_eq]
  generalize a.data.toList = x
  generalize b.data.toList = y
  by_cases h : x = y <;> simp [h]
theorem belowN {B : Nat} {a w : World} (h : Below B a w) (q : Nat) : Below B a (w.drewN q) := ⟨h.os, h.tape, h.output, h.size, h.block⟩

set_option maxHeartbeats 2000000 in
theorem first_any (x : Option Addr) (len cap : Nat) (S : Nat → ByteArray) (w : World) (H : Hid (SRow w x len S)) (hl : len ≤ 65536) :
    Calls Try.prog 15 #[.slice x len cap] w fun e w' => e = .returned (.slice (some ⟨w.heap.size, 0, none⟩) len len) ∧ ∃ f : Nat → Int, IsFirst (fun i => (S i).data.toList) len f ∧ w'.rowIs w.heap.size 3 len (fun i => .int .i64 (f i)) ∧ Below w.heap.size w w' := by
  have hmk := run_make_row' (P := Try.prog) 32 3 (.int .i64 0) 8 Try.underlying32 info3 rfl .i64 .i64 len (by omega) (by omega)
  go_enter Try.func15, Try.ntmps15
  go_wp2
  clear hmk
  go_loopg [4] len (fun g i wr => ∃ (k : Nat) (f : Nat → Int), k ≤ len ∧ g = len - k ∧ i = .int .i64 k ∧ IsFirst (fun i => (S i).data.toList) k f ∧ wr.rowIs w.heap.size 3 len (fill (fun i => .int .i64 (f i)) (.int .i64 0) k) ∧ Below w.heap.size w wr)
  case atStart => exact ⟨0, fun _ => 0, Nat.zero_le _, rfl, rfl, fun i hi => absurd hi (Nat.not_lt_zero _), (World.rowIs_made w _ len 3).congr (fun j _ => by simp [fill]), (Below.refl _ _).alloc (Nat.le_refl _) _⟩
  case round =>
    obtain ⟨k, f, hk, rfl, rfl, hf, hr, hb⟩ := hrel
    by_cases hlt : k < len
    · obtain ⟨b, off, rfl, hbw, hcell⟩ := H.out.2 (by omega)
      have hc2 : wr.cell? ⟨w.heap.size, k, none⟩ = some (.int .i64 0) := by rw [hr.cell hlt]; simp [fill]
      have hf2 := hr.frozen k
      have HF : Hid (IsFirst (fun i => (S i).data.toList) k f) := hf
      have HC : Hid (∀ i, i < len → w.cell? ⟨b, off + i, none⟩ = some (.string (S i))) := hcell
      clear hcell hf
      go_wp2
      have R0 : Hid ((wr.setCell ⟨w.heap.size, k, none⟩ (.int .i64 (k : Int))).rowIs w.heap.size 3 len (fill (fun i => .int .i64 (upd f k k i)) (.int .i64 0) (k + 1))) := row_upd _ hr
      have B0 : Hid (Below w.heap.size w (wr.setCell ⟨w.heap.size, k, none⟩ (.int .i64 (k : Int)))) := hb.setCell (Nat.le_refl _) _
      clear hr hb hc2 hf2
      go_loopg [5] k (fun g j wi => ∃ m : Nat, m ≤ k ∧ g = k - m ∧ j = .int .i64 m ∧ Hid (∀ i, i < m → (S i).data.toList ≠ (S k).data.toList) ∧ wi.rowIs w.heap.size 3 len (fill (fun i => .int .i64 (upd f k k i)) (.int .i64 0) (k + 1)) ∧ Below w.heap.size w wi)
      case atStart => exact ⟨0, Nat.zero_le _, rfl, rfl, fun i hi => absurd hi (Nat.not_lt_zero _), R0.out, B0.out⟩
      case round =>
        obtain ⟨m, hm, rfl, rfl, HN, hr, hb⟩ := hrel
        clear R0 B0
        by_cases hmk : m < k
        · have i1 : (m : Int) < (len : Int) := by omega
          have i2 : (k : Int) < (len : Int) := by omega
          have d1 : wr.cell? ⟨b, off + m, none⟩ = some (.string (S m)) := (hb.cell (p := ⟨b, off + m, none⟩) hbw).trans (HC.out m (by omega))
          have d2 : wr.cell? ⟨b, off + k, none⟩ = some (.string (S k)) := (hb.cell (p := ⟨b, off + k, none⟩) hbw).trans (HC.out k (by omega))
          have d3 : wr.cell? ⟨w.heap.size, k, none⟩ = some (.int .i64 (k : Int)) := by rw [hr.cell hlt]; simp [fill, upd]
          have d4 := hr.frozen k
          by_cases he : (S m).data.toList = (S k).data.toList
          · have hE : ((S m).toList == (S k).toList) = true := by rw [bytes_beq]; simpa using he
            have HE : Hid ((S m).data.toList = (S k).data.toList) := he
            clear he
            go_wp2
            go_quiet (fail)
            go_wp2
            go_roundg (len - (k + 1))
            case measure => omega
            case rel => exact ⟨k + 1, upd f k m, by omega, rfl, by go_num, first_old HF.out hmk HE.out, row_upd2 _ _ hr, (belowN hb _).setCell (Nat.le_refl _) _⟩
          · have hE : ((S m).toList == (S k).toList) = false := by rw [bytes_beq]; simpa using he
            have HE : Hid (¬ (S m).data.toList = (S k).data.toList) := he
            clear he
            go_wp2
            go_quiet (fail)
            go_wp2
            go_roundg (k - (m + 1))
            case measure => omega
            case rel => exact ⟨m + 1, by omega, rfl, by go_num, fun i hi => (by
              by_cases e : i = m
              · subst e; exact HE.out
              · exact HN.out i (by omega)), hr, belowN hb _⟩
        · obtain rfl : m = k := by omega
          go_wp2
          go_roundg (len - (m + 1))
          case measure => omega
          case rel => exact ⟨m + 1, upd f m m, by omega, rfl, by go_num, first_new HF.out HN.out, hr, hb⟩
    · obtain rfl : k = len := by omega
      go_wp2
      go_ret
      exact ⟨rfl, f, hf, hr.congr (fun i hi => by simp [fill, hi]), hb⟩

theorem cnt_hit {f : Nat → Int} {k : Nat} (h : f k = (k : Int)) : cnt f (k + 1) = cnt f k + 1 := by simp only [cnt]; rw [if_pos h]
theorem cnt_miss {f : Nat → Int} {k : Nat} (h : ¬ f k = (k : Int)) : cnt f (k + 1) = cnt f k := by simp only [cnt]; rw [if_neg h]
/-- The ranks when k keys are counted. -/
def rks (f : Nat → Int) (k : Nat) : Nat → Value := fun i => if i ≤ k then .int .i64 (cnt f i : Int) else .int .i64 0
theorem rks_step {wr : World} {B len k : Nat} {f : Nat → Int} (hk : k < len) (h : wr.rowIs B 3 (len + 1) (rks f k)) :
    (wr.setCell ⟨B, k + 1, none⟩ (.int .i64 (cnt f (k + 1) : Int))).rowIs B 3 (len + 1) (rks f (k + 1)) := by
  refine (h.set (k + 1) _).congr fun i _ => ?_
  simp only [rks]
  by_cases e : i = k + 1
  · subst e; simp
  · rw [if_neg e]
    by_cases hlt : i ≤ k
    · rw [if_pos hlt, if_pos (by omega)]
    · rw [if_neg hlt, if_neg (by omega)]
theorem rks_step2 {wr : World} {B len k : Nat} {f : Nat → Int} {u : Value} (hk : k < len) (h : wr.rowIs B 3 (len + 1) (rks f k)) :
    ((wr.setCell ⟨B, k + 1, none⟩ u).setCell ⟨B, k + 1, none⟩ (.int .i64 (cnt f (k + 1) : Int))).rowIs B 3 (len + 1) (rks f (k + 1)) := by
  refine ((h.set (k + 1) _).set (k + 1) _).congr fun i _ => ?_
  simp only [rks]
  by_cases e : i = k + 1
  · subst e; simp
  · rw [if_neg e, if_neg e]
    by_cases hlt : i ≤ k
    · rw [if_pos hlt, if_pos (by omega)]
    · rw [if_neg hlt, if_neg (by omega)]

set_option maxHeartbeats 2000000 in
theorem rank_any (F len : Nat) (f : Nat → Int) (w : World) (hr0 : w.rowIs F 3 len (fun i => .int .i64 (f i))) (hl : len ≤ 65535) :
    Calls Try.prog 16 #[.slice (some ⟨F, 0, none⟩) len len] w fun e w' => e = .returned (.slice (some ⟨w.heap.size, 0, none⟩) (len + 1) (len + 1)) ∧ w'.rowIs w.heap.size 3 (len + 1) (rks f len) ∧ Below w.heap.size w w' := by
  have hF := hr0.lt
  have hmk := run_make_row' (P := Try.prog) 32 3 (.int .i64 0) 8 Try.underlying32 info3 rfl .i64 .i64 (len + 1) (by omega) (by omega)
  have ec : ((len + 1 : Nat) : Int) = (len : Int) + 1 := by omega
  rw [ec] at hmk
  clear ec
  have H0 : Hid (w.rowIs F 3 len (fun i => .int .i64 (f i))) := hr0
  clear hr0
  go_enter Try.func16, Try.ntmps16
  go_wp2
  clear hmk
  go_loopg [4] len (fun g i wr => ∃ k : Nat, k ≤ len ∧ g = len - k ∧ i = .int .i64 k ∧ wr.rowIs w.heap.size 3 (len + 1) (rks f k) ∧ Below w.heap.size w wr)
  case atStart => exact ⟨0, Nat.zero_le _, rfl, rfl, (World.rowIs_made w _ (len + 1) 3).congr (fun j _ => by simp only [rks]; split <;> simp_all [cnt]), (Below.refl _ _).alloc (Nat.le_refl _) _⟩
  case round =>
    obtain ⟨k, hk, rfl, rfl, hr, hb⟩ := hrel
    by_cases hlt : k < len
    · have hcl := cnt_le f k
      have c1 : wr.cell? ⟨F, k, none⟩ = some (.int .i64 (f k)) := (hb.cell (p := ⟨F, k, none⟩) hF).trans (H0.out.cell hlt)
      have c2 : wr.cell? ⟨w.heap.size, k, none⟩ = some (.int .i64 (cnt f k : Int)) := by rw [hr.cell (by omega)]; simp [rks]
      have c3 : wr.cell? ⟨w.heap.size, k + 1, none⟩ = some (.int .i64 0) := by rw [hr.cell (by omega)]; simp only [rks]; rw [if_neg (by omega)]
      have c4 := hr.frozen (k + 1)
      by_cases he : f k = (k : Int)
      · have hE : (f k == (k : Int)) = true := by simpa using he
        have HE : Hid (cnt f (k + 1) = cnt f k + 1) := cnt_hit he
        clear he
        go_wp2
        go_roundg (len - (k + 1))
        case measure => omega
        case rel => exact ⟨k + 1, by omega, rfl, by go_num, by have h := rks_step2 (u := .int .i64 (cnt f k : Int)) hlt hr; rw [HE.out] at h; exact h, (hb.setCell (Nat.le_refl _) _).setCell (Nat.le_refl _) _⟩
      · have hE : (f k == (k : Int)) = false := by simpa using he
        have HE : Hid (cnt f (k + 1) = cnt f k) := cnt_miss he
        clear he
        go_wp2
        go_roundg (len - (k + 1))
        case measure => omega
        case rel => exact ⟨k + 1, by omega, rfl, by go_num, by have h := rks_step hlt hr; rw [HE.out] at h; exact h, hb.setCell (Nat.le_refl _) _⟩
    · obtain rfl : k = len := by omega
      go_wp2
      go_ret
      exact ⟨rfl, hr, hb⟩
end Go.Proofs.Qxb6003200a.Intr
