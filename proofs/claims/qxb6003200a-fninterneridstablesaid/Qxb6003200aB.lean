import Derived.Test.Qxb6003200aA
import Derived.Test.Qxb6003200aP
namespace Go.Proofs.Qxb6003200a.Intr
open Go.RowKit Go.Deep Go.Maps Go.Lib Go.WideMaps Go.WideElems
set_option linter.unusedVariables false
set_option linter.unusedSimpArgs false

/-- The map reads as the list of keys, each at its place. -/
structure Reads (D : DataW Unit) (L : List Key) : Prop where
  has : ∀ x : Key, Maps.has D (.string x) = decide (x ∈ L)
  val : ∀ x : Key, x ∈ L → ∀ z, D.atKey (.string x) z = .lit (.int .i64 (at_ L x : Int))
  size : Maps.size D = L.length
  tidy : Tidy D

theorem Reads.empty : Reads (.map []) [] := ⟨fun x => (by simp [Maps.has]), fun x h => absurd h (by simp), rfl, tidy_empty⟩
theorem Reads.snoc {D : DataW Unit} {L : List Key} {x : Key} (h : Reads D L) (hx : x ∉ L) : Reads (D.put (.string x) (.lit (.int .i64 (L.length : Int)))) (L ++ [x]) := by
  have hk : WideAt.IsKeyLit (.string x) := trivial
  refine ⟨fun y => ?_, fun y hy z => ?_, ?_, h.tidy.put hk _⟩
  · by_cases e : y = x
    · subst e
      rw [has_put_same h.tidy.isMap hk]; simp
    · rw [has_put_other (fun q => e (by injection q)), h.has y]
      simp [e]
  · by_cases e : y = x
    · subst e
      rw [atKey_put_same h.tidy.isMap hk, at_snoc_new hx]
    · have hyL : y ∈ L := by
        rcases List.mem_append.1 hy with q | q
        · exact q
        · exact absurd (by simpa using q) e
      rw [atKey_put_other (fun q => e (by injection q)), h.val y hyL, at_append_mem hyL]
  · rw [size_put h.tidy, h.has x, h.size]
    simp [hx]

/-- The interner at block I; its map lies at 'lo' or above. -/
structure In (w : World) (I lo : Nat) (L : List Key) : Prop where
  mem : (w.cell? ⟨I, 0, none⟩ = some (.map none) ∧ L = []) ∨ ∃ b n D, w.cell? ⟨I, 0, none⟩ = some (.map (some b)) ∧ lo ≤ b ∧ n ≤ L.length ∧ w.ownsMap Try.prog 9 (plainElem (H := Unit) Try.prog 3) b n D ∧ Reads D L
  fr : w.frozen? ⟨I, 0, none⟩ = false
  lt : I < lo
  le : lo ≤ w.heap.size

/-- Below lo nothing but block I has turned. -/
structure Keep (lo I : Nat) (w w' : World) : Prop where
  os : w'.os = w.os
  tape : w'.tape = w.tape
  output : w'.output = w.output
  size : w.heap.size ≤ w'.heap.size
  block : ∀ k, k < lo → k ≠ I → w'.heap[k]? = w.heap[k]?
theorem Keep.trans {lo I : Nat} {a b c : World} (h : Keep lo I a b) (k : Keep lo I b c) : Keep lo I a c :=
  ⟨k.os.trans h.os, k.tape.trans h.tape, k.output.trans h.output, Nat.le_trans h.size k.size, fun i hi hn => (k.block i hi hn).trans (h.block i hi hn)⟩
theorem Keep.below {lo I B : Nat} {w0 w w' : World} (h : Keep lo I w w') (hb : Below B w0 w) (hB : B ≤ I) (hI : I < lo) : Below B w0 w' :=
  hb.trans ⟨h.os, h.tape, h.output, h.size, fun k hk => h.block k (by omega) (by omega)⟩

theorem keyed : Keyed Try.prog 9 := string_keyed Try.underlying9
theorem zero3 (w : World) : (zeroValue 3).run Try.prog w = .ok (.int .i64 0) w := by kernel_rfl
theorem wf_len (n : Nat) (h : n ≤ 65536) : (Lit.int .i64 (n : Int)).wf = true := WalkArith.wf_i64 (by omega)

set_option maxHeartbeats 1000000 in
theorem id_any (I lo kb cap : Nat) (L : List Key) (s : ByteArray) (w : World) (hin : In w I lo L) (hL : L.length ≤ 60000) (hs : s.size ≤ maxLen)
    (hkb : kb < w.heap.size) (hkI : kb ≠ I) (hby : Bytes w kb 0 s) :
    Calls Try.prog 20 #[.pointer (some ⟨I, 0, none⟩), .slice (some ⟨kb, 0, none⟩) s.size cap] w fun e w' =>
      e = .returned (.int .i64 (at_ L s.data.toList : Int)) ∧ In w' I lo (addK L s.data.toList) ∧ Keep lo I w w' := by
  have hkey : keyOf Try.prog 9 (.string s) = some (.string s.data.toList) := keyOf_string_mk Try.underlying9 hs
  have hconv : ∀ q, (convert 27 9 (.slice (some ⟨kb, 0, none⟩) s.size cap)).run Try.prog (w.drewN q) = .ok (.string s) (w.drewN q) := fun q => run_convert_whole (w.drewN q) 27 5 9 Try.underlying27 Try.underlying5 Try.underlying9 kb 0 s (hby.drewN q) cap
  rcases hin.mem with ⟨hc, rfl⟩ | ⟨b, n, D, hc, hlo, hn, hown, hrd⟩
  · have hI : I < w.heap.size := Nat.lt_of_lt_of_le hin.lt hin.le
    have bI : ∀ q, ((w.drewN q).alloc (.map #[] 0)).heap[I]? = w.heap[I]? := fun q => Below.heap_alloc (w.drewN q) _ I hI
    have W0 : ∀ q k, k < w.heap.size → k ≠ I → (((w.drewN q).alloc (.map #[] 0)).setCell ⟨I, 0, none⟩ (.map (some w.heap.size))).heap[k]? = w.heap[k]? := fun q k hk hn =>
      (Below.heap_setCell _ _ _ k hn).trans (Below.heap_alloc (w.drewN q) _ k hk)
    have hc1 : ∀ q, ((w.drewN q).alloc (.map #[] 0)).cell? ⟨I, 0, none⟩ = some (.map none) := fun q => by rw [World.cell?_of_block (w := w) (bI q)]; exact hc
    have hf1 : ∀ q, ((w.drewN q).alloc (.map #[] 0)).frozen? ⟨I, 0, none⟩ = false := fun q => by rw [World.frozen?_of_block (w := w) (bI q)]; exact hin.fr
    have hc2 : ∀ q, (((w.drewN q).alloc (.map #[] 0)).setCell ⟨I, 0, none⟩ (.map (some w.heap.size))).cell? ⟨I, 0, none⟩ = some (.map (some w.heap.size)) := fun q => World.cell?_setCell_same _ _ _ (hc1 q)
    have ho : ∀ q, (((w.drewN q).alloc (.map #[] 0)).setCell ⟨I, 0, none⟩ (.map (some w.heap.size))).ownsMap Try.prog 9 (plainElem (H := Unit) Try.prog 3) w.heap.size 0 (.map []) := fun q =>
      (World.ownsMap_made (w.drewN q) Try.prog 9 (plainElem (H := Unit) Try.prog 3)).setCell (by show w.heap.size ≠ I; omega) _
    have hlen : ∀ q ty, (Builtin.len_ #[35] ty #[.map (some w.heap.size)]).run Try.prog (((w.drewN q).alloc (.map #[] 0)).setCell ⟨I, 0, none⟩ (.map (some w.heap.size))) = .ok (.int .i64 0) (((w.drewN q).alloc (.map #[] 0)).setCell ⟨I, 0, none⟩ (.map (some w.heap.size))) := fun q ty => (ho q).len Try.underlying35 ty
    have hconv2 : ∀ q, (convert 27 9 (.slice (some ⟨kb, 0, none⟩) s.size cap)).run Try.prog (((w.drewN q).alloc (.map #[] 0)).setCell ⟨I, 0, none⟩ (.map (some w.heap.size))).drew = .ok (.string s) (((w.drewN q).alloc (.map #[] 0)).setCell ⟨I, 0, none⟩ (.map (some w.heap.size))).drew := fun q =>
      run_convert_whole _ 27 5 9 Try.underlying27 Try.underlying5 Try.underlying9 kb 0 s (fun i hi => by
        have := hby i hi
        rw [← this]
        exact World.cell?_of_block (w := w) (W0 q kb hkb hkI)) cap
    have hst : ∀ q, ∃ w', (Instr.mapUpdate 35 (.map (some w.heap.size)) (.string s) (.int .i64 0)).run Try.prog (((w.drewN q).alloc (.map #[] 0)).setCell ⟨I, 0, none⟩ (.map (some w.heap.size))).drew = .ok () w' ∧ w'.ownsMap Try.prog 9 (plainElem (H := Unit) Try.prog 3) w.heap.size (0 + 1) ((DataW.map []).put (.string s.data.toList) (.lit (.int .i64 0))) ∧ (((w.drewN q).alloc (.map #[] 0)).setCell ⟨I, 0, none⟩ (.map (some w.heap.size))).drew.mapTurned w' w.heap.size := by
      intro q
      exact (ho q).drew.store keyed Try.underlying35 (by unfold maxLen; omega) hkey (plainElem_int Try.underlying3 (by decide))
    refine (id_first I kb s.size cap s w (fun q => Classical.choose (hst q)) hI hc hconv (fun q => Maps.look_nil true keyed Try.underlying35 (zero3 _) hkey) hc1 hf1 hc2 hlen hconv2 (fun q => (Classical.choose_spec (hst q)).1)).mono ?_
    rintro e w' ⟨rfl, q, rfl⟩
    obtain ⟨_, hown', hturn⟩ := Classical.choose_spec (hst q)
    have hg := hturn.grown
    generalize Classical.choose (hst q) = w' at hown' hg hturn ⊢
    have hsz : w.heap.size + 1 ≤ w'.heap.size := by have := hg.size; simpa [World.setCell] using this
    have hbI' : w'.heap[I]? = (((w.drewN q).alloc (.map #[] 0)).setCell ⟨I, 0, none⟩ (.map (some w.heap.size))).heap[I]? := hg.block I (by simp [World.setCell]; omega) (fun q => by injection q; omega)
    have hnm : s.data.toList ∉ ([] : List Key) := by simp
    rw [addK_new hnm]
    refine ⟨rfl, ⟨Or.inr ⟨w.heap.size, 1, _, ?_, hin.le, by simp, hown', Reads.empty.snoc hnm⟩, ?_, hin.lt, by have := hin.le; omega⟩, ⟨hg.os, hg.tape, hg.output, by omega, fun k hk hn => ?_⟩⟩
    · rw [World.cell?_of_block hbI']; exact hc2 q
    · rw [World.frozen?_of_block hbI', World.frozen?_setCell]; exact hf1 q
    · have h1 := hg.block k (by have := hin.le; simp [World.setCell]; omega) (fun q => by injection q; have := hin.le; omega)
      exact h1.trans (W0 q k (by have := hin.le; omega) hn)
  · by_cases hx : s.data.toList ∈ L
    · have hl : ∀ q, (Instr.lookup 35 (.map (some b)) (.string s) true).run Try.prog (w.drewN q) = .ok (.tuple #[.int .i64 (at_ L s.data.toList : Int), .bool true]) (w.drewN q) := by
        intro q
        have ho : (w.drewN q).ownsMap Try.prog 9 (plainElem (H := Unit) Try.prog 3) b n D := hown
        obtain ⟨v, ps, hrun, hv⟩ := ho.look_ok keyed Try.underlying35 (zero3 _) (plainElem_int Try.underlying3 (by decide)) hkey
        rw [hrd.val _ hx] at hv
        obtain ⟨a, rfl, he, _⟩ := plainElem_int_inv Try.underlying3 hv
        injection he with he _
        injection he with he
        injection he with _ he
        rw [hrun, hrd.has, he]
        simp [hx]
      refine (id_found I b kb s.size cap s _ w hc hconv hl).mono ?_
      rintro e w' ⟨rfl, q, rfl⟩
      rw [addK_mem hx]
      exact ⟨rfl, ⟨Or.inr ⟨b, n, D, hc, hlo, hn, hown, hrd⟩, hin.fr, hin.lt, hin.le⟩, ⟨rfl, rfl, rfl, Nat.le_refl _, fun _ _ _ => rfl⟩⟩
    · have hz : ∀ q, (Instr.lookup 35 (.map (some b)) (.string s) true).run Try.prog (w.drewN q) = .ok (.tuple #[.int .i64 0, .bool false]) (w.drewN q) := by
        intro q
        have ho : (w.drewN q).ownsMap Try.prog 9 (plainElem (H := Unit) Try.prog 3) b n D := hown
        obtain ⟨v, ps, hrun, hv⟩ := ho.look_ok keyed Try.underlying35 (zero3 _) (plainElem_int Try.underlying3 (by decide)) hkey
        have hh : Maps.has D (.string s.data.toList) = false := by rw [hrd.has]; simp [hx]
        rw [atKey_of_not_has hh] at hv
        obtain ⟨a, rfl, he, _⟩ := plainElem_int_inv Try.underlying3 hv
        injection he with he _
        injection he with he
        injection he with _ he
        rw [hrun, hh, he]
      have hlen : ∀ q ty, (Builtin.len_ #[35] ty #[.map (some b)]).run Try.prog (w.drewN q) = .ok (.int .i64 (L.length : Int)) (w.drewN q) := by
        intro q ty
        have ho : (w.drewN q).ownsMap Try.prog 9 (plainElem (H := Unit) Try.prog 3) b n D := hown
        rw [ho.len Try.underlying35 ty, hrd.size]
      have hst : ∀ q, ∃ w', (Instr.mapUpdate 35 (.map (some b)) (.string s) (.int .i64 (L.length : Int))).run Try.prog (w.drewN q) = .ok () w' ∧ w'.ownsMap Try.prog 9 (plainElem (H := Unit) Try.prog 3) b (n + 1) (D.put (.string s.data.toList) (.lit (.int .i64 (L.length : Int)))) ∧ (w.drewN q).mapTurned w' b := by
        intro q
        have ho : (w.drewN q).ownsMap Try.prog 9 (plainElem (H := Unit) Try.prog 3) b n D := hown
        exact ho.store keyed Try.underlying35 (by unfold maxLen; omega) hkey (plainElem_int Try.underlying3 (wf_len _ (by omega)))
      refine (id_new I b kb s.size cap s 0 (L.length : Int) w (fun q => Classical.choose (hst q)) hc hconv hz hlen (fun q => (Classical.choose_spec (hst q)).1)).mono ?_
      rintro e w' ⟨rfl, q, rfl⟩
      obtain ⟨_, hown', hturn⟩ := Classical.choose_spec (hst q)
      have hg := hturn.grown
      generalize Classical.choose (hst q) = w' at hown' hg hturn ⊢
      have hbI : I ≠ b := by have := hin.lt; omega
      have hbI' : w'.heap[I]? = w.heap[I]? := hg.block I (by have := hin.lt; have := hin.le; show I < w.heap.size; omega) (fun q => hbI (by injection q))
      rw [addK_new hx, at_not_mem hx]
      refine ⟨rfl, ⟨Or.inr ⟨b, n + 1, _, ?_, hlo, by simp; omega, hown', hrd.snoc hx⟩, ?_, hin.lt, Nat.le_trans hin.le hg.size⟩, ⟨hg.os, hg.tape, hg.output, hg.size, fun k hk _ => hg.block k (by have := hin.le; show k < w.heap.size; omega) (fun q => by injection q; omega)⟩⟩
      · rw [World.cell?_of_block (w := w) hbI']; exact hc
      · rw [World.frozen?_of_block (w := w) hbI']; exact hin.fr
end Go.Proofs.Qxb6003200a.Intr
