/-
  The contract of the thin package's TrimSuffix. No condition.
-/
import Derived.Test.YteiginpjahmppaaBase
import Derived.Test.YteiginpjahmppaaShelf
namespace Go.Proofs.Yteiginpjahmppaa
open Go.RowKit
set_option linter.unusedVariables false

set_option maxHeartbeats 1000000 in
theorem impl_TrimSuffix (s p : ByteArray) (hs : s.size ≤ 9223372036854775807) (w : World) :
    Calls Try.prog 5 #[.string s, .string p] w fun e w' => e = .returned (.string ⟨(Lib.trimSuffix s.data.toList p.data.toList).toArray⟩) ∧ w = w' := by
  go_enter Try.func5, Try.ntmps5
  go_wp2_with (go_at_call 12; refine (Try.strings_TrimSuffix _ _ _ hs).mono ?_; rintro e w' ⟨rfl, hw⟩)
  go_ret
  exact ⟨rfl, by first | rfl | exact hw | exact hw.symm⟩
end Go.Proofs.Yteiginpjahmppaa
