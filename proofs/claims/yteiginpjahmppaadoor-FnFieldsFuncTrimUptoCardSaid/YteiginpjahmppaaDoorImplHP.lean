/-
  The contracts of the thin package's HasPrefix and HasSuffix. No condition.
-/
import Derived.Test.YteiginpjahmppaaDoorBase
import Derived.Test.YteiginpjahmppaaDoorShelf
namespace Go.Proofs.YteiginpjahmppaaDoor
open Go.RowKit
set_option linter.unusedVariables false

set_option maxHeartbeats 1000000 in
theorem impl_HasPrefix (s p : ByteArray) (w : World) :
    Calls Tryd.prog 18 #[.string s, .string p] w fun e w' => e = .returned (.bool (Lib.hasPrefix s.data.toList p.data.toList)) ∧ w = w' := by
  go_enter Tryd.func18, Tryd.ntmps18
  go_wp2_with (go_at_call 38; refine (Tryd.strings_HasPrefix _ _ _).mono ?_; rintro e w' ⟨rfl, hw⟩)
  go_ret
  exact ⟨rfl, by first | rfl | exact hw | exact hw.symm⟩
set_option maxHeartbeats 1000000 in
theorem impl_HasSuffix (s p : ByteArray) (hs : s.size ≤ 9223372036854775807) (w : World) :
    Calls Tryd.prog 19 #[.string s, .string p] w fun e w' => e = .returned (.bool (Lib.hasSuffix s.data.toList p.data.toList)) ∧ w = w' := by
  go_enter Tryd.func19, Tryd.ntmps19
  go_wp2_with (go_at_call 39; refine (Tryd.strings_HasSuffix _ _ _ hs).mono ?_; rintro e w' ⟨rfl, hw⟩)
  go_ret
  exact ⟨rfl, by first | rfl | exact hw | exact hw.symm⟩
end Go.Proofs.YteiginpjahmppaaDoor
