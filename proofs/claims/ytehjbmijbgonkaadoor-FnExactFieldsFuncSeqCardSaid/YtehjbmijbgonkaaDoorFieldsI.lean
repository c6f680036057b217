/-
  The contract of impl.FieldsFunc, and how what a law holds stays through what comes later. Conditions: the text's length is at most 2^32; the test's runes lie in memory.
-/
import Derived.Test.YtehjbmijbgonkaaDoorRuns
import Derived.Test.YtehjbmijbgonkaaDoorExact
namespace Go.Proofs.YtehjbmijbgonkaaDoor
open Go.RowKit
set_option linter.unusedVariables false

/-- what a law holds: its test, the copy of it, and what the reference told -/
structure Keeps (P X g c b : Nat) (o1 o4 : Obj) (l : List ByteArray) (w : World) : Prop where
  p : w.heap[P]? = some o1
  x : w.heap[X]? = some o4
  o : OwnStrs w b g l.length c l
theorem Keeps.at {P X g c b : Nat} {o1 o4 : Obj} {l : List ByteArray} {w w' : World} (h : Keeps P X g c b o1 o4 l w) (hP : w'.heap[P]? = w.heap[P]?) (hX : w'.heap[X]? = w.heap[X]?) (hg : w'.heap[g]? = w.heap[g]?) : Keeps P X g c b o1 o4 l w' :=
  ⟨hP.trans h.p, hX.trans h.x, own_blk h.o hg⟩
theorem Keeps.under {P X g c b B : Nat} {o1 o4 : Obj} {l : List ByteArray} {w w' : World} (h : Keeps P X g c b o1 o4 l w) (hb : Below B w w') (hP : P < B) (hX : X < B) (hg : g < B) : Keeps P X g c b o1 o4 l w' :=
  h.at (hb.block _ hP) (hb.block _ hX) (hb.block _ hg)
theorem Keeps.later {P X g c b : Nat} {o1 o4 : Obj} {l : List ByteArray} {w w' : World} (h : Keeps P X g c b o1 o4 l w) (hb : Below w.heap.size w w') : Keeps P X g c b o1 o4 l w' :=
  h.under hb (heap_lt h.p) (heap_lt h.x) (h.o.lt _ rfl).2
theorem Keeps.cells {P X g c b : Nat} {x y u v : Value} {t t' : TypeId} {l : List ByteArray} {w : World} (h : Keeps P X g c b (.cells #[x, y] t) (.cells #[u, v] t') l w) : w.cell? ⟨P, 0, none⟩ = some x ∧ w.cell? ⟨P, 1, none⟩ = some y ∧ w.cell? ⟨X, 0, none⟩ = some u ∧ w.cell? ⟨X, 1, none⟩ = some v :=
  ⟨(two_cells h.p).1, (two_cells h.p).2, (two_cells h.x).1, (two_cells h.x).2⟩
end Go.Proofs.YtehjbmijbgonkaaDoor
