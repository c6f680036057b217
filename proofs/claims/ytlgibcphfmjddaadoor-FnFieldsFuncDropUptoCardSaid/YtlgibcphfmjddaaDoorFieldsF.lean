/-
  The contract of the library's FieldsFunc where it is handed a method value of a test, and of the thin package's FieldsFunc. Conditions: the text's length is at most 2^32; the test's runes lie in memory.
-/
import Derived.Test.YtlgibcphfmjddaaDoorRuns
import Derived.Test.YtlgibcphfmjddaaDoorFf
import Derived.Laws.DeepNot64
import Derived.Lib.FieldsP
import Derived.Lib.OthersKept
import Derived.Laws.MakeOwn
namespace Go.Proofs.YtlgibcphfmjddaaDoor
open Go.RowKit
set_option linter.unusedVariables false

/-- spans as cells, two a span -/
def spCells (l : List (Nat × Nat)) : List Value := l.flatMap fun x => [Value.int .i64 (x.1 : Int), Value.int .i64 (x.2 : Int)]
theorem spCells_snoc (l : List (Nat × Nat)) (a b : Nat) : spCells (l ++ [(a, b)]) = spCells l ++ [Value.int .i64 (a : Int), Value.int .i64 (b : Int)] := by simp [spCells]
theorem spCells_len (l : List (Nat × Nat)) : (spCells l).length = l.length * 2 := by
  induction l with
  | nil => rfl
  | cons x l ih => simp [spCells, List.flatMap_cons] at ih ⊢; omega
theorem spCells_at : ∀ (l : List (Nat × Nat)) (k : Nat) (hk : k < l.length), (spCells l)[k * 2]? = some (.int .i64 (l[k].1 : Int)) ∧ (spCells l)[k * 2 + 1]? = some (.int .i64 (l[k].2 : Int))
  | [], k, hk => by simp at hk
  | x :: l, 0, hk => by simp [spCells]
  | x :: l, k + 1, hk => by
    have e : spCells (x :: l) = [.int .i64 (x.1 : Int), .int .i64 (x.2 : Int)] ++ spCells l := by simp [spCells]
    have ih := spCells_at l k (by simpa using hk)
    rw [e, List.getElem?_append_right (by simp; omega), List.getElem?_append_right (by simp; omega)]
    simpa [show (k + 1) * 2 - 2 = k * 2 by omega, show (k + 1) * 2 + 1 - 2 = k * 2 + 1 by omega] using ih
/-- how the library keeps where a part has begun -/
def StIs (st : Option Nat) (z : Int) : Prop := -9223372036854775808 ≤ z ∧ (st = none → z < 0) ∧ ∀ a, st = some a → z = (a : Int)
theorem Tryd.infoSpan : (Tryd.prog.info? 92).map (fun i => (i.zero, i.size, i.bytes)) = some (some (.agg #[.int .i64 0, .int .i64 0]), 2, 16) := by kernel_rfl
end Go.Proofs.YtlgibcphfmjddaaDoor
