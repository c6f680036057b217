/-
  The contract of the reference's runs: the longest parts without a code point that satisfies a test. Conditions: the text's length is at most 2^40; the test's runes lie in memory.
-/
import Derived.Test.YtlgibcphfmjddaaDoorPl
import Derived.Test.YtlgibcphfmjddaaDoorTexts
import Derived.Test.YtlgibcphfmjddaaDoorNewS
namespace Go.Proofs.YtlgibcphfmjddaaDoor
open Go.RowKit
set_option linter.unusedVariables false

/-- where a part has begun, as the reference keeps it -/
def stZ (st : Option Nat) : Int := match st with | none => -1 | some a => a
theorem cut_snoc (s : ByteArray) (done : List (Nat × Nat)) (x : Nat × Nat) : strs ((done ++ [x]).map (cut s)) = strs (done.map (cut s)) ++ [.string (cut s x)] := by simp [strs]
end Go.Proofs.YtlgibcphfmjddaaDoor
