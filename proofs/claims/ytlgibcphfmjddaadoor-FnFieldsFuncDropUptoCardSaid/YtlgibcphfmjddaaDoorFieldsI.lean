/-
  The contract of impl.FieldsFunc, and how what a law holds stays through what comes later. Conditions: the text's length is at most 2^32; the test's runes lie in memory.
-/
import Derived.Test.YtlgibcphfmjddaaDoorFieldsF2
import Derived.Test.YtlgibcphfmjddaaDoorRuns
namespace Go.Proofs.YtlgibcphfmjddaaDoor
open Go.RowKit
set_option linter.unusedVariables false

set_option maxRecDepth 100000 in
set_option maxHeartbeats 1000000 in
theorem impl_FieldsFunc (a : Option Addr) (len cap : Nat) (zs : List Int) (nt : Bool) (s : ByteArray) (w : World) (hs : s.size ≤ 4294967296) (hl : Lies w w.heap.size 1 a len (ints zs)) (hlen : len ≤ 70368744177664) :
    Calls Tryd.prog 26 #[.string s, .agg #[.slice a len cap, .bool nt]] w (NewStrs (fieldsP (fun x => holdB zs nt x) s) w) := by
  have hb0 : Below w.heap.size w (w.alloc (.cells #[.slice a len cap, .bool nt] 48)) := (Below.refl _ w).alloc (Nat.le_refl _) _
  have HP := Lib.hid ((pred_test a len cap zs nt w hl hlen).later hb0)
  have HB := Lib.hid hb0
  have hmf := make_bound
  clear hl hb0
  go_enter Tryd.func26, Tryd.ntmps26
  go_wp2_with (go_at_call 41; refine (lib_FieldsFunc _ _ _ _ hs HP.out).mono ?_; rintro e w' ⟨g, c, rfl, ho, hb⟩)
  go_ret
  exact ⟨g, c, rfl, own_base ho HB.out.size, HB.out.trans (hb.mono HB.out.size)⟩

/-- what a law holds: its test, the copy of it, and what the reference told -/
structure Keeps (P X g c b : Nat) (o1 o4 : Obj) (l : List ByteArray) (w : World) : Prop where
  p : w.heap[P]? = some o1
  x : w.heap[X]? = some o4
  o : OwnStrs w b g l.length c l
theorem Keeps.at {P X g c b : Nat} {o1 o4 : Obj} {l : List ByteArray} {w w' : World} (h : Keeps P X g c b o1 o4 l w) (hP : w'.heap[P]? = w.heap[P]?) (hX : w'.heap[X]? = w.heap[X]?) (hg : w'.heap[g]? = w.heap[g]?) : Keeps P X g c b o1 o4 l w' :=
  ⟨hP.trans h.p, hX.trans h.x, own_blk h.o hg⟩
theorem Keeps.under {P X g c b B : Nat} {o1 o4 : Obj} {l : List ByteArray} {w w' : World} (h : Keeps P X g c b o1 o4 l w) (hb : Below B w w') (hP : P < B) (hX : X < B) (hg : g < B) : Keeps P X g c b o1 o4 l w' :=
  h.at (hb.block _ hP) (hb.block _ hX) (hb.block _ hg)
theorem Keeps.later {P X g c b : Nat} {o1 o4 : Obj} {l : List ByteArray} {w w' : World} (h : Keeps P X g c b o1 o4 l w) (hb : Below w.heap.size w w') : Keeps P X g c b o1 o4 l w' :=
  h.under hb (heap_lt h.p) (heap_lt h.x) (h.o.lt _ rfl).2
theorem Keeps.cells {P X g c b : Nat} {x y u v : Value} {t t' : TypeId} {l : List ByteArray} {w : World} (h : Keeps P X g c b (.cells #[x, y] t) (.cells #[u, v] t') l w) : w.cell? ⟨P, 0, none⟩ = some x ∧ w.cell? ⟨P, 1, none⟩ = some y ∧ w.cell? ⟨X, 0, none⟩ = some u ∧ w.cell? ⟨X, 1, none⟩ = some v :=
  ⟨(two_cells h.p).1, (two_cells h.p).2, (two_cells h.x).1, (two_cells h.x).2⟩
end Go.Proofs.YtlgibcphfmjddaaDoor
