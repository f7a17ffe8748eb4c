import Derived.Test.Qxb6602033aRows
import Derived.WalkKit
import Derived.WalkSpells
import Derived.Deep.DeepCutAuto
import Derived.Deep.Light
import Derived.RowKit3
namespace Go.Proofs.Qxb6602033a.Js
open Go.RowKit
set_option linter.unusedVariables false

/-- New blocks alone. -/
structure Gb (w w' : World) : Prop where
  g : Grown w w'
  b : Below w.heap.size w w'
theorem Gb.refl (w : World) : Gb w w := ⟨Grown.refl _, Below.refl _ _⟩
theorem Gb.alloc {w w' : World} (h : Gb w w') (c : Array Value) (t : TypeId) : Gb w (w'.alloc (.cells c t)) := ⟨h.g.alloc c t, h.b.alloc h.b.size _⟩
theorem Gb.setCell {w w' : World} (h : Gb w w') {a : Addr} (ha : w.heap.size ≤ a.block) (v : Value) : Gb w (w'.setCell a v) := ⟨h.g.setCell ha v, h.b.setCell ha v⟩
theorem Gb.drew {w w' : World} (h : Gb w w') : Gb w w'.drew := ⟨h.g.drew, h.b.drew⟩
theorem Gb.trans {a b c : World} (h : Gb a b) (k : Gb b c) : Gb a c :=
  ⟨⟨World.keptBut_trans h.g.1 k.g.1, fun x => (k.g.2.1 x).trans (h.g.2.1 x), Nat.le_trans h.g.2.2 k.g.2.2⟩, h.b.trans (k.b.mono h.b.size)⟩

def bsl : ByteArray := { data := #[92] }
def crr : ByteArray := { data := #[13] }
def emp : ByteArray := { data := #[] }
def qCons (E C : Bool) (r : Int) : Bool := E || (C && r == 10)
def qQuote (st : Int) : Int := if (st == 2) = true then 39 else 34
def qCloses (st : Int) (E C : Bool) (r : Int) : Bool := !qCons E C r && r == qQuote st
def qBreaks (E C : Bool) (r : Int) : Bool := !qCons E C r && (r == 10 || r == 13)
def qEscapes (E C : Bool) (r : Int) : Bool := !qCons E C r && r == 92
def qSpec (st mk : Int) (E C : Bool) (r : Int) : Bool := qCloses st E C r && mk == 21
def qTail (tl : ByteArray) (E C : Bool) (r : Int) : ByteArray := if E = true then (if (r == 13) = true then crr else emp) else if qEscapes E C r = true then bsl else if C = true then emp else tl
def qState (st : Int) (E C : Bool) (r : Int) : Int := if (qCloses st E C r || qBreaks E C r) = true then 0 else st
def qSlash (st sl mk : Int) (E C : Bool) (r : Int) : Int := if (qSpec st mk E C r || qBreaks E C r) = true then 0 else if qCloses st E C r = true then 2 else sl
def qLine (ln : Int) (E C : Bool) (r : Int) : Int := if qBreaks E C r = true then 0 else ln
def qMark (st mk : Int) (E C : Bool) (r : Int) : Int := if (qSpec st mk E C r || qBreaks E C r) = true then 0 else mk

set_option maxHeartbeats 2000000 in
theorem quoted_any (st sl : Int) (tl : ByteArray) (sp : Bool) (ln mk gl : Int) (ns : ByteArray) (rs r : Int) (w : World) :
    Calls Try.prog 28 #[.agg #[.int .u8 st, .int .u8 sl, .string tl, .bool sp, .int .u8 ln, .int .u8 mk, .int .u8 gl, .string ns, .int .u8 rs], .int .i32 r] w fun e w' =>
      e = .returned (.agg #[.int .u8 (qState st (tl.toList == [92]) (tl.toList == [13]) r), .int .u8 (qSlash st sl mk (tl.toList == [92]) (tl.toList == [13]) r), .string (qTail tl (tl.toList == [92]) (tl.toList == [13]) r), .bool sp, .int .u8 (qLine ln (tl.toList == [92]) (tl.toList == [13]) r), .int .u8 (qMark st mk (tl.toList == [92]) (tl.toList == [13]) r), .int .u8 gl, .string ns, .int .u8 rs]) ∧ Gb w w' := by
  go_enter Try.func28, Try.ntmps28
  go_wp2
  all_goals
    simp [bodyPost, results, Try.results28, go_sem]
    go_light
    refine ⟨?_, ((Gb.refl _).alloc _ _).alloc _ _⟩
    simp_all [qState, qSlash, qTail, qLine, qMark, qSpec, qBreaks, qCloses, qEscapes, qCons, qQuote, bsl, crr, emp]
end Go.Proofs.Qxb6602033a.Js
