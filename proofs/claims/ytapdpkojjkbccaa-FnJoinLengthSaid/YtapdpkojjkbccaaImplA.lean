/-
  Contracts of the thin package's and the reference's small functions over bytes: each calls one function, whose contract is at hand.
-/
import Derived.Test.YtapdpkojjkbccaaSpecA
import Derived.Test.YtapdpkojjkbccaaShelf
namespace Go.Proofs.Ytapdpkojjkbccaa
open Go.RowKit
set_option linter.unusedVariables false


set_option maxHeartbeats 1000000 in
theorem impl_HasPrefix (s p : ByteArray) (w : World) :
    Calls Try.prog 12 #[.string s, .string p] w fun e w' => e = .returned (.bool (Lib.hasPrefix s.data.toList p.data.toList)) ∧ w = w' := by
  go_enter Try.func12, Try.ntmps12
  go_wp2_with (go_at_call 18; refine (Try.strings_HasPrefix _ _ _).mono ?_; rintro e w' ⟨rfl, hw⟩)
  go_ret
  exact ⟨rfl, by first | rfl | exact hw | exact hw.symm⟩

set_option maxHeartbeats 1000000 in
theorem impl_HasSuffix (s p : ByteArray) (hs : s.size ≤ 9223372036854775807) (w : World) :
    Calls Try.prog 13 #[.string s, .string p] w fun e w' => e = .returned (.bool (Lib.hasSuffix s.data.toList p.data.toList)) ∧ w = w' := by
  go_enter Try.func13, Try.ntmps13
  go_wp2_with (go_at_call 19; refine (Try.strings_HasSuffix _ _ _ hs).mono ?_; rintro e w' ⟨rfl, hw⟩)
  go_ret
  exact ⟨rfl, by first | rfl | exact hw | exact hw.symm⟩












end Go.Proofs.Ytapdpkojjkbccaa
