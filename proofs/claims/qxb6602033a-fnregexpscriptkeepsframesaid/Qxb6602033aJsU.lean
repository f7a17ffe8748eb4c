import Derived.Test.Qxb6602033aJsR
import Derived.Deep.RegionHeld3
import Derived.Deep.OwnRows
import Derived.Lib.LazyBuf
namespace Go.Proofs.Qxb6602033a.Js
open Go.RowKit Go.Deep
set_option linter.unusedVariables false
set_option linter.unusedSimpArgs false

theorem Try.info21 : (Try.prog.info? 21).map (fun i => (i.zero, i.size, i.bytes)) = some (some (.int .i32 0), 1, 4) := by kernel_rfl

set_option maxHeartbeats 1000000 in
theorem bytes23_any (st sl : Int) (tl : ByteArray) (sp : Bool) (ln mk gl : Int) (ns : ByteArray) (rs : Int) (a : Option Addr) (len cap : Nat) (h1 : tl.size ≤ maxLen) (h2 : ns.size ≤ maxLen) (h3 : len ≤ maxLen) (w : World) :
    Calls Try.prog 23 #[.int .u8 st, .int .u8 sl, .string tl, .bool sp, .int .u8 ln, .int .u8 mk, .int .u8 gl, .string ns, .int .u8 rs, .slice a len cap] w fun e w' =>
      (∃ b, e = .returned (.bool b)) ∧ w = w' := by
  unfold maxLen at h1 h2 h3
  go_enter Try.func23, Try.ntmps23
  go_wp2
  all_goals (go_ret; exact ⟨⟨_, rfl⟩, rfl⟩)

theorem q32 (w : World) (a : Option Addr) (n c : Nat) : (binOp .eql 32 (.slice a n c) (.slice none 0 0)).run Try.prog w = .ok (.bool a.isNone) w := Go.run_eql_slice_nil w _ _ a n c Try.underlying32

theorem copy_nil (w : World) : Calls Try.prog 19 #[.slice none 0 0] w fun e w' => e = .returned (.slice none 0 0) ∧ w = w' := by
  have q := q32
  go_enter Try.func19, Try.ntmps19
  go_wp2
  go_ret
  exact ⟨rfl, rfl⟩

/-- What is known of the row that a slice leads to. -/
def RowAt (w : World) (x : Addr) (len : Nat) (Z : Nat → Int) : Prop :=
  0 < len → ∃ b off, x = ⟨b, off, none⟩ ∧ b < w.heap.size ∧ ∀ i, i < len → w.cell? ⟨b, off + i, none⟩ = some (.int .i32 (Z i))

/-- The new row, k cells of it filled. -/
def part (Z : Nat → Int) (k : Nat) : Nat → Value := fun i => if i < k then .int .i32 (Z i) else .int .i32 0
theorem part_step {wr : World} {B len k : Nat} {Z : Nat → Int} (h : wr.rowIs B 21 len (part Z k)) : (wr.setCell ⟨B, k, none⟩ (.int .i32 (Z k))).rowIs B 21 len (part Z (k + 1)) := by
  refine (h.set k _).congr fun i _ => ?_
  simp only [part]
  by_cases e : i = k
  · subst e; simp
  · rw [if_neg e]
    by_cases hlt : i < k
    · rw [if_pos hlt, if_pos (by omega)]
    · rw [if_neg hlt, if_neg (by omega)]

/-- A row copied: a new block that holds the same numbers. -/
theorem copy_any (x : Addr) (len cap : Nat) (Z : Nat → Int) (w : World) (hx : Hid (RowAt w x len Z)) (hl : len ≤ 65536) :
    Calls Try.prog 19 #[.slice (some x) len cap] w fun e w' => e = .returned (.slice (some ⟨w.heap.size, 0, none⟩) len len) ∧ w'.rowIs w.heap.size 21 len (fun i => .int .i32 (Z i)) ∧ Below w.heap.size w w' := by
  have q := q32
  have hmk := run_make_row' (P := Try.prog) 32 21 (.int .i32 0) 4 Try.underlying32 Try.info21 rfl .i64 .i64 len (by omega) (by omega)
  go_enter Try.func19, Try.ntmps19
  go_wp2
  clear q hmk
  go_loopg [4] len (fun g i wr => ∃ k : Nat, k ≤ len ∧ g = len - k ∧ i = .int .i64 k ∧ wr.rowIs w.heap.size 21 len (part Z k) ∧ Below w.heap.size w wr)
  case atStart => exact ⟨0, Nat.zero_le _, rfl, rfl, (World.rowIs_made w _ len 21).congr (fun j _ => by simp [part]), (Below.refl _ _).alloc (Nat.le_refl _) _⟩
  case round =>
    obtain ⟨k, hk, rfl, rfl, hr, hb⟩ := hrel
    by_cases hlt : k < len
    · obtain ⟨b, off, rfl, hbw, hcell⟩ := hx.out (by omega)
      have hc1 : wr.cell? ⟨b, off + k, none⟩ = some (.int .i32 (Z k)) := (hb.cell (p := ⟨b, off + k, none⟩) hbw).trans (hcell k hlt)
      have hc2 := hr.cell hlt
      have hf2 := hr.frozen k
      clear hcell
      go_wp2
      go_roundg (len - (k + 1))
      case measure => omega
      case rel => exact ⟨k + 1, by omega, rfl, by go_num, part_step hr, hb.setCell (Nat.le_refl _) _⟩
    · obtain rfl : k = len := by omega
      go_wp2
      go_ret
      exact ⟨rfl, hr.congr (fun i hi => by simp [part, hi]), hb⟩
end Go.Proofs.Qxb6602033a.Js
