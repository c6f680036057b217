/-
  A list of texts in new memory, as a call hands it back. No condition.
-/
import Derived.Test.YtlgibcphfmjddaaDoorTexts
namespace Go.Proofs.YtlgibcphfmjddaaDoor
open Go.RowKit
/-- a list of texts in new memory -/
def NewStrs (l : List ByteArray) (w : World) (e : Ending) (w' : World) : Prop :=
  ∃ g c, e = .returned (.slice (some ⟨g, 0, none⟩) l.length c) ∧ OwnStrs w' w.heap.size g l.length c l ∧ Below w.heap.size w w'
end Go.Proofs.YtlgibcphfmjddaaDoor
