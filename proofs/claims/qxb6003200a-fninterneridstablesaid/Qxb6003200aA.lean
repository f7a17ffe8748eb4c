import Derived.Test.Qxb6003200aRows
import Derived.WalkKit
import Derived.WalkSpells
import Derived.Maps.OwnSet
import Derived.Maps.Views
import Derived.Deep.QuietTactic
import Derived.BigQuiet
import Derived.BigRegion
import Derived.Deep.OwnRows
import Derived.Lib.SlBytesRow
import Derived.Lib.ConvBytes
namespace Go.Proofs.Qxb6003200a.Intr
open Go.RowKit Go.Deep Go.Maps
set_option linter.unusedVariables false
set_option linter.unusedSimpArgs false

theorem q35 (w : World) (r : Option Nat) : (binOp .eql 35 (.map r) (.map none)).run Try.prog w = .ok (.bool r.isNone) w := run_eql_map_nil w _ _ _ r Try.underlying35

set_option maxHeartbeats 1000000 in
theorem id_found (I b kb n cap : Nat) (s : ByteArray) (v : Int) (w : World) (hc : w.cell? ⟨I, 0, none⟩ = some (.map (some b)))
    (hconv : ∀ q, (convert 27 9 (.slice (some ⟨kb, 0, none⟩) n cap)).run Try.prog (w.drewN q) = .ok (.string s) (w.drewN q))
    (hlook : ∀ q, (Instr.lookup 35 (.map (some b)) (.string s) true).run Try.prog (w.drewN q) = .ok (.tuple #[.int .i64 v, .bool true]) (w.drewN q)) :
    Calls Try.prog 20 #[.pointer (some ⟨I, 0, none⟩), .slice (some ⟨kb, 0, none⟩) n cap] w fun e w' => e = .returned (.int .i64 v) ∧ ∃ q, w' = w.drewN q := by
  go_enter Try.func20, Try.ntmps20
  go_wp2
  go_quiet (fail)
  go_wp2
  go_ret
  exact ⟨rfl, _, rfl⟩

set_option maxHeartbeats 1000000 in
theorem id_new (I b kb n cap : Nat) (s : ByteArray) (z v : Int) (w : World) (W : Nat → World) (hc : w.cell? ⟨I, 0, none⟩ = some (.map (some b)))
    (hconv : ∀ q, (convert 27 9 (.slice (some ⟨kb, 0, none⟩) n cap)).run Try.prog (w.drewN q) = .ok (.string s) (w.drewN q))
    (hlook : ∀ q, (Instr.lookup 35 (.map (some b)) (.string s) true).run Try.prog (w.drewN q) = .ok (.tuple #[.int .i64 z, .bool false]) (w.drewN q))
    (hlen : ∀ q ty, (Builtin.len_ #[35] ty #[.map (some b)]).run Try.prog (w.drewN q) = .ok (.int .i64 v) (w.drewN q))
    (hupd : ∀ q, (Instr.mapUpdate 35 (.map (some b)) (.string s) (.int .i64 v)).run Try.prog (w.drewN q) = .ok () (W q)) :
    Calls Try.prog 20 #[.pointer (some ⟨I, 0, none⟩), .slice (some ⟨kb, 0, none⟩) n cap] w fun e w' => e = .returned (.int .i64 v) ∧ ∃ q, w' = W q := by
  have hq := q35
  go_enter Try.func20, Try.ntmps20
  go_wp2
  go_quiet (fail)
  go_wp2
  go_region
  all_goals
    go_wp2
    go_ret
    exact ⟨rfl, _, rfl⟩

/-- The interner's map made and laid in its field. -/
def madeAt (w : World) (I : Nat) : World := (w.alloc (.map #[] 0)).setCell ⟨I, 0, none⟩ (.map (some w.heap.size))

set_option maxHeartbeats 1000000 in
theorem id_first (I kb n cap : Nat) (s : ByteArray) (w : World) (W : Nat → World) (hI : I < w.heap.size) (hc : w.cell? ⟨I, 0, none⟩ = some (.map none))
    (hconv : ∀ q, (convert 27 9 (.slice (some ⟨kb, 0, none⟩) n cap)).run Try.prog (w.drewN q) = .ok (.string s) (w.drewN q))
    (hlook : ∀ q, (Instr.lookup 35 (.map none) (.string s) true).run Try.prog (w.drewN q) = .ok (.tuple #[.int .i64 0, .bool false]) (w.drewN q))
    (hc1 : ∀ q, ((w.drewN q).alloc (.map #[] 0)).cell? ⟨I, 0, none⟩ = some (.map none))
    (hf1 : ∀ q, ((w.drewN q).alloc (.map #[] 0)).frozen? ⟨I, 0, none⟩ = false)
    (hc2 : ∀ q, (((w.drewN q).alloc (.map #[] 0)).setCell ⟨I, 0, none⟩ (.map (some w.heap.size))).cell? ⟨I, 0, none⟩ = some (.map (some w.heap.size)))
    (hlen : ∀ q ty, (Builtin.len_ #[35] ty #[.map (some w.heap.size)]).run Try.prog (((w.drewN q).alloc (.map #[] 0)).setCell ⟨I, 0, none⟩ (.map (some w.heap.size))) = .ok (.int .i64 0) (((w.drewN q).alloc (.map #[] 0)).setCell ⟨I, 0, none⟩ (.map (some w.heap.size))))
    (hconv2 : ∀ q, (convert 27 9 (.slice (some ⟨kb, 0, none⟩) n cap)).run Try.prog (((w.drewN q).alloc (.map #[] 0)).setCell ⟨I, 0, none⟩ (.map (some w.heap.size))).drew = .ok (.string s) (((w.drewN q).alloc (.map #[] 0)).setCell ⟨I, 0, none⟩ (.map (some w.heap.size))).drew)
    (hupd : ∀ q, (Instr.mapUpdate 35 (.map (some w.heap.size)) (.string s) (.int .i64 0)).run Try.prog (((w.drewN q).alloc (.map #[] 0)).setCell ⟨I, 0, none⟩ (.map (some w.heap.size))).drew = .ok () (W q)) :
    Calls Try.prog 20 #[.pointer (some ⟨I, 0, none⟩), .slice (some ⟨kb, 0, none⟩) n cap] w fun e w' => e = .returned (.int .i64 0) ∧ ∃ q, w' = W q := by
  have hq := q35
  have hmm := @run_makeMap Try.prog
  go_enter Try.func20, Try.ntmps20
  go_wp2
  go_quiet (fail)
  go_wp2

  go_region
  all_goals
    go_wp2
    go_ret
    exact ⟨rfl, _, rfl⟩
end Go.Proofs.Qxb6003200a.Intr
