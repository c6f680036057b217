/-
  Small lemmas on worlds, endings and bytes that the contracts of this seat use. No condition.
-/
import Derived.Test.YtlgibcphfmjddaaDoorProg
import Derived.WalkKit
import Derived.WalkLawsBesides
import Derived.WalkSpells
import Derived.Deep.QuietTactic
import Derived.Deep.Draws
import Derived.BigQuiet
import Derived.BigGuard
import Derived.Outline
import Derived.LoopTactic
import Derived.Lib.Hide
import Derived.Lib.Strings
import Derived.Below
namespace Go.Proofs.YtlgibcphfmjddaaDoor
open Go.RowKit
set_option linter.unusedVariables false

/-- nothing but draws -/
def Dr (w w' : World) : Prop := ∃ n, w' = w.drewN n
theorem Dr.refl (w : World) : Dr w w := ⟨0, rfl⟩
theorem Dr.more {w w' : World} (h : Dr w w') (n : Nat) : Dr w (w'.drewN n) := by
  obtain ⟨m, rfl⟩ := h; exact ⟨m + n, World.drewN_drewN _ _ _⟩
theorem Dr.trans {a b c : World} (h : Dr a b) (k : Dr b c) : Dr a c := by
  obtain ⟨m, rfl⟩ := k; exact h.more m
theorem Dr.below {w w' : World} (h : Dr w w') (B : Nat) : Below B w w' := by
  obtain ⟨n, rfl⟩ := h; exact ⟨rfl, rfl, rfl, Nat.le_refl _, fun _ _ => rfl⟩
theorem Dr.grown {w w' : World} (h : Dr w w') : Grown w w' := by
  have h1 := h.below w.heap.size; obtain ⟨n, rfl⟩ := h; exact ⟨h1.frame _, fun _ => rfl, Nat.le_refl _⟩

theorem ret_int {k : IntKind} {a b : Int} (h : a = b) : Ending.returned (.int k a) = .returned (.int k b) := by rw [h]
theorem ret_bool {a b : Bool} (h : a = b) : Ending.returned (.bool a) = .returned (.bool b) := by rw [h]
theorem ret_str {a b : ByteArray} (h : a = b) : Ending.returned (.string a) = .returned (.string b) := by rw [h]

theorem drop_get (a : ByteArray) (k : Nat) (h : k < a.size) : a.data.toList.drop k = a[k] :: a.data.toList.drop (k + 1) := by
  rw [List.drop_eq_getElem_cons (by simpa using h)]; rfl
theorem take_snoc (s : ByteArray) (k : Nat) (h : k < s.size) : s.data.toList.take (k + 1) = s.data.toList.take k ++ [s[k]] := by
  rw [List.take_succ_eq_append_getElem (by simpa using h)]; rfl
theorem drop_end (a : ByteArray) (k : Nat) (h : a.size ≤ k) : a.data.toList.drop k = [] := List.drop_of_length_le (by simpa using h)
theorem len_data (a : ByteArray) : a.data.toList.length = a.size := (Lib.size_eq a).symm
end Go.Proofs.YtlgibcphfmjddaaDoor
