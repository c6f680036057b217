/-
  The contract of the thin package's IndexByte. No condition.
-/
import Derived.Test.YtmfjmikiebijgaaBase
import Derived.Test.YtmfjmikiebijgaaShelf
namespace Go.Proofs.Ytmfjmikiebijgaa
open Go.RowKit
set_option linter.unusedVariables false

set_option maxHeartbeats 1000000 in
theorem impl_IndexByte (s : ByteArray) (c : Int) (w : World) :
    Calls Try.prog 24 #[.string s, .int .u8 c] w fun e w' => e = .returned (.int .i64 (Lib.indexByte s.data.toList c.toNat.toUInt8)) ∧ w = w' := by
  go_enter Try.func24, Try.ntmps24
  go_wp2_with (go_at_call 41; refine (Try.strings_IndexByte _ _ _).mono ?_; rintro e w' ⟨rfl, hw⟩)
  go_ret
  exact ⟨rfl, by first | rfl | exact hw | exact hw.symm⟩
end Go.Proofs.Ytmfjmikiebijgaa
