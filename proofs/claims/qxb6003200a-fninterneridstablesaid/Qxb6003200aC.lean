import Derived.Test.Qxb6003200aB
import Derived.Deep.DeepCutAuto
import Derived.Deep.Light
namespace Go.Proofs.Qxb6003200a.Intr
open Go.RowKit Go.Deep Go.Maps Go.Lib
set_option linter.unusedVariables false
set_option linter.unusedSimpArgs false

theorem zzId_any (I lo kb cap : Nat) (L : List Key) (s : ByteArray) (w : World) (hin : In w I lo L) (hL : L.length ≤ 60000) (hs : s.size ≤ maxLen)
    (hkb : kb < w.heap.size) (hkI : kb ≠ I) (hby : Bytes w kb 0 s) :
    Calls Try.prog 17 #[.pointer (some ⟨I, 0, none⟩), .slice (some ⟨kb, 0, none⟩) s.size cap] w fun e w' =>
      e = .returned (.int .i64 (at_ L s.data.toList : Int)) ∧ In w' I lo (addK L s.data.toList) ∧ Keep lo I w w' := by
  have H : Hid (Calls Try.prog 20 #[.pointer (some ⟨I, 0, none⟩), .slice (some ⟨kb, 0, none⟩) s.size cap] w fun e w' =>
      e = .returned (.int .i64 (at_ L s.data.toList : Int)) ∧ In w' I lo (addK L s.data.toList) ∧ Keep lo I w w') := id_any I lo kb cap L s w hin hL hs hkb hkI hby
  clear hin hs hby hkb hkI hL
  go_enter Try.func17, Try.ntmps17
  go_wp2_with fail
  refine H.out.mono ?_
  rintro e w' ⟨rfl, h⟩
  go_wp2
  go_ret
  exact ⟨rfl, h⟩

/-- '[]byte(s)' and then the interner asked. -/
theorem ask_any (I lo : Nat) (L : List Key) (s : ByteArray) (w : World) (hin : In w I lo L) (hL : L.length ≤ 60000) (hs : s.size ≤ maxLen) :
    Calls Try.prog 17 #[.pointer (some ⟨I, 0, none⟩), .slice (some ⟨w.heap.size, 0, none⟩) s.size (grownCap w s.size 0 5)] (bytesWorld w 5 s) fun e w' =>
      e = .returned (.int .i64 (at_ L s.data.toList : Int)) ∧ In w' I lo (addK L s.data.toList) ∧ Keep lo I w w' := by
  have hI : I < w.heap.size := Nat.lt_of_lt_of_le hin.lt hin.le
  have hb : ∀ k, k < w.heap.size → (bytesWorld w 5 s).heap[k]? = w.heap[k]? := fun k hk => bytesWorld_at_old w 5 s k hk
  have hz := bytesWorld_size w 5 s
  have hin' : In (bytesWorld w 5 s) I lo L := by
    refine ⟨?_, ?_, hin.lt, by rw [hz]; have := hin.le; omega⟩
    · rcases hin.mem with ⟨hc, hl⟩ | ⟨b, n, D, hc, h1, h2, ho, h4⟩
      · exact Or.inl ⟨by rw [World.cell?_of_block (w := w) (hb I hI)]; exact hc, hl⟩
      · refine Or.inr ⟨b, n, D, by rw [World.cell?_of_block (w := w) (hb I hI)]; exact hc, h1, h2, ?_, h4⟩
        have hlt := ho.lt
        obtain ⟨es, clock, hbb, h⟩ := ho
        exact ⟨es, clock, (hb b hlt).trans hbb, h⟩
    · rw [World.frozen?_of_block (w := w) (hb I hI)]; exact hin.fr
  refine (zzId_any I lo w.heap.size _ L s (bytesWorld w 5 s) hin' hL hs (by rw [hz]; omega) (by omega) ?_).mono fun e w' h => ⟨h.1, h.2.1, ?_⟩
  · intro i hi
    rw [Nat.zero_add, bytesWorld_cell w 5 s i hi]
    simp [List.getD, hi]
    rfl
  · have hk : Keep lo I w (bytesWorld w 5 s) := ⟨rfl, rfl, rfl, by rw [hz]; omega, fun k hk _ => hb k (by have := hin.le; omega)⟩
    exact hk.trans h.2.2

/-- What is known of a slice of strings. -/
def SRow (w : World) (x : Option Addr) (len : Nat) (S : Nat → ByteArray) : Prop :=
  (∀ i, (S i).size ≤ maxLen) ∧ (0 < len → ∃ b off, x = some ⟨b, off, none⟩ ∧ b < w.heap.size ∧ ∀ i, i < len → w.cell? ⟨b, off + i, none⟩ = some (.string (S i)))

set_option maxHeartbeats 1000000 in
theorem bytes18_any (x : Option Addr) (len cap : Nat) (S : Nat → ByteArray) (ex : ByteArray) (w : World) (hl : len ≤ maxLen) (he : ex.size ≤ maxLen) (H : Hid (SRow w x len S)) :
    Calls Try.prog 18 #[.slice x len cap, .string ex] w fun e w' => (∃ b, e = .returned (.bool b)) ∧ w = w' := by
  unfold maxLen at hl he
  go_enter Try.func18, Try.ntmps18
  go_wp2
  all_goals first
    | (go_ret; exact ⟨⟨_, rfl⟩, rfl⟩)
    | skip
  go_loopg [5, 6] len (fun g a i wr => w = wr ∧ ∃ (k : Nat) (n : Int), k ≤ len ∧ g = len - k ∧ i = .int .i64 k ∧ a = .int .i64 n ∧ 0 ≤ n ∧ n ≤ 1048576)
  case atStart => exact ⟨rfl, 0, len, Nat.zero_le _, rfl, rfl, rfl, by omega, by omega⟩
  case round =>
    obtain ⟨rfl, k, n, hk, rfl, rfl, rfl, hn0, hn1⟩ := hrel
    by_cases hlt : k < len
    · obtain ⟨b, off, rfl, hbw, hcell⟩ := H.out.2 (by omega)
      have hc1 := hcell k hlt
      have hsz := H.out.1 k
      unfold maxLen at hsz
      clear hcell H
      go_wp2
      all_goals first
        | (go_ret; exact ⟨⟨_, rfl⟩, rfl⟩)
        | (go_roundg (len - (k + 1)); case measure => omega
           case rel => exact ⟨rfl, k + 1, _, by omega, rfl, by go_num, rfl, by omega, by omega⟩)
    · clear H
      go_wp2
      all_goals (go_ret; exact ⟨⟨_, rfl⟩, rfl⟩)

set_option maxHeartbeats 1000000 in
theorem strBytes_any (x : Option Addr) (len cap : Nat) (S : Nat → ByteArray) (w : World) (hl : len ≤ maxLen) (H : Hid (SRow w x len S)) :
    Calls Try.prog 9 #[.slice x len cap] w fun e w' => (∃ n, e = .returned (.int .i64 n)) ∧ w = w' := by
  unfold maxLen at hl
  go_enter Try.func9, Try.ntmps9
  go_wp2
  go_loopg [3, 4] len (fun g a i wr => w = wr ∧ ∃ (k : Nat) (n : Int), k ≤ len ∧ g = len - k ∧ i = .int .i64 k ∧ a = .int .i64 n ∧ 0 ≤ n ∧ n ≤ 1048576)
  case atStart => exact ⟨rfl, 0, 0, Nat.zero_le _, rfl, rfl, rfl, by omega, by omega⟩
  case round =>
    obtain ⟨rfl, k, n, hk, rfl, rfl, rfl, hn0, hn1⟩ := hrel
    by_cases hlt : k < len
    · obtain ⟨b, off, rfl, hbw, hcell⟩ := H.out.2 (by omega)
      have hc1 := hcell k hlt
      have hsz := H.out.1 k
      unfold maxLen at hsz
      clear hcell H
      go_wp2
      all_goals first
        | (go_ret; exact ⟨⟨_, rfl⟩, rfl⟩)
        | (go_roundg (len - (k + 1)); case measure => omega
           case rel => exact ⟨rfl, k + 1, _, by omega, rfl, by go_num, rfl, by omega, by omega⟩)
    · clear H
      go_wp2
      all_goals (go_ret; exact ⟨⟨_, rfl⟩, rfl⟩)
end Go.Proofs.Qxb6003200a.Intr
