import Derived.Test.Qxb6003200aD
import Derived.Deep.RegionHeld3
namespace Go.Proofs.Qxb6003200a.Intr
open Go.RowKit Go.Deep Go.Maps
open Go.Lib (bytesWorld Bytes)
set_option linter.unusedVariables false
set_option linter.unusedSimpArgs false

theorem In.drew {w : World} {I lo : Nat} {L : List Key} (h : In w I lo L) : In w.drew I lo L := ⟨h.mem, h.fr, h.lt, h.le⟩

/-- What holds in the law's loops: the interner knows L; the copied keys, the ranks, the ids (k of them laid) stand. -/
structure St (w wr : World) (I R len : Nat) (S : Nat → ByteArray) (f : Nat → Int) (F L : List Key) (k : Nat) : Prop where
  inn : In wr I (I + 2) L
  keys : 0 < len → w.heap.size < I ∧ wr.rowIs w.heap.size 9 len (fun i => .string (S i))
  ids : wr.rowIs (I + 1) 3 len (fill (fun i => .int .i64 (at_ F (S i).data.toList : Int)) (.int .i64 0) k)
  rank : wr.rowIs R 3 (len + 1) (rks f len)
  rlt : R < I
  lo : w.heap.size ≤ I
  bel : Below w.heap.size w wr

theorem St.kept {w wr w' : World} {I R len : Nat} {S : Nat → ByteArray} {f : Nat → Int} {F L L' : List Key} {k : Nat} (h : St w wr I R len S f F L k) (hi : In w' I (I + 2) L') (hk : Keep (I + 2) I wr w') : St w w' I R len S f F L' k :=
  ⟨hi, fun q => ⟨(h.keys q).1, (h.keys q).2.of_block (hk.block _ (by have := (h.keys q).1; omega) (by have := (h.keys q).1; omega))⟩, h.ids.of_block (hk.block _ (by omega) (by omega)), h.rank.of_block (hk.block _ (by have := h.rlt; omega) (by have := h.rlt; omega)), h.rlt, h.lo, hk.below h.bel h.lo (by omega)⟩
theorem St.laid {w wr : World} {I R len : Nat} {S : Nat → ByteArray} {f : Nat → Int} {F L : List Key} {k : Nat} (h : St w wr I R len S f F L k) :
    St w (wr.setCell ⟨I + 1, k, none⟩ (.int .i64 (at_ F (S k).data.toList : Int))) I R len S f F L (k + 1) := by
  have hb : ∀ j, j ≠ I + 1 → (wr.setCell ⟨I + 1, k, none⟩ (.int .i64 (at_ F (S k).data.toList : Int))).heap[j]? = wr.heap[j]? := fun j hj => Below.heap_setCell _ _ _ j hj
  refine ⟨⟨?_, ?_, h.inn.lt, by have := h.inn.le; simpa [World.setCell] using this⟩, fun q => ⟨(h.keys q).1, (h.keys q).2.of_block (hb _ (by have := (h.keys q).1; omega))⟩, fill_step h.ids, h.rank.of_block (hb _ (by have := h.rlt; omega)), h.rlt, h.lo, h.bel.setCell (by have := h.lo; show w.heap.size ≤ I + 1; omega) _⟩
  · rcases h.inn.mem with ⟨hc, hl⟩ | ⟨b, n, D, hc, h1, h2, ho, h4⟩
    · exact Or.inl ⟨by rw [World.cell?_of_block (w := wr) (hb I (by omega))]; exact hc, hl⟩
    · exact Or.inr ⟨b, n, D, by rw [World.cell?_of_block (w := wr) (hb I (by omega))]; exact hc, h1, h2, ho.setCell (by show b ≠ I + 1; omega) _, h4⟩
  · rw [World.frozen?_of_block (w := wr) (hb I (by omega))]; exact h.inn.fr

theorem info38 : (Try.prog.info? 38).map (fun i => (i.zero, i.size, i.bytes)) = some (some (.agg #[.map none, .slice none 0 0, .slice none 0 0]), 3, 56) := by kernel_rfl

theorem st_start {w w3 : World} {R len : Nat} {S : Nat → ByteArray} {f : Nat → Int} {F : List Key} (hk : 0 < len → w3.rowIs w.heap.size 9 len (fun i => .string (S i))) (hr : w3.rowIs R 3 (len + 1) (rks f len)) (hb : Below w.heap.size w w3) :
    St w ((w3.alloc (.cells #[.map none, .slice none 0 0, .slice none 0 0] 38)).alloc (.cells (madeCells #[.int .i64 0] len) 3)) w3.heap.size R len S f F [] 0 := by
  have e : (w3.alloc (.cells #[.map none, .slice none 0 0, .slice none 0 0] 38)).heap.size = w3.heap.size + 1 := by simp
  have hI : ((w3.alloc (.cells #[.map none, .slice none 0 0, .slice none 0 0] 38)).alloc (.cells (madeCells #[.int .i64 0] len) 3)).heap[w3.heap.size]? = some (.cells #[.map none, .slice none 0 0, .slice none 0 0] 38 (0, 0)) :=
    (Below.heap_alloc _ _ _ (by rw [e]; omega)).trans (blk_alloc_new _ _)
  have hn := World.rowIs_made (w3.alloc (.cells #[.map none, .slice none 0 0, .slice none 0 0] 38)) (.int .i64 0) len 3
  rw [e] at hn
  refine ⟨⟨Or.inl ⟨by simp [World.cell?, hI], rfl⟩, by simp [World.frozen?, hI], by omega, by simp⟩, fun q => ⟨(hk q).lt, ((hk q).alloc _).alloc _⟩, hn.congr (fun j _ => by simp [fill]), (hr.alloc _).alloc _, hr.lt, hb.size, (hb.alloc hb.size _).alloc (by rw [e]; have := hb.size; omega) _⟩
end Go.Proofs.Qxb6003200a.Intr
