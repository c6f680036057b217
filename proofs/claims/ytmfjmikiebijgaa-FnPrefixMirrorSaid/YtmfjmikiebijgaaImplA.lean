/-
  Contracts of the thin package's and the reference's small functions over bytes: each calls one function, whose contract is at hand.
-/
import Derived.Test.YtmfjmikiebijgaaSpecA
import Derived.Test.YtmfjmikiebijgaaShelf
namespace Go.Proofs.Ytmfjmikiebijgaa
open Go.RowKit
set_option linter.unusedVariables false


set_option maxHeartbeats 1000000 in
theorem impl_HasPrefix (s p : ByteArray) (w : World) :
    Calls Try.prog 17 #[.string s, .string p] w fun e w' => e = .returned (.bool (Lib.hasPrefix s.data.toList p.data.toList)) ∧ w = w' := by
  go_enter Try.func17, Try.ntmps17
  go_wp2_with (go_at_call 34; refine (Try.strings_HasPrefix _ _ _).mono ?_; rintro e w' ⟨rfl, hw⟩)
  go_ret
  exact ⟨rfl, by first | rfl | exact hw | exact hw.symm⟩

set_option maxHeartbeats 1000000 in
theorem impl_HasSuffix (s p : ByteArray) (hs : s.size ≤ 9223372036854775807) (w : World) :
    Calls Try.prog 19 #[.string s, .string p] w fun e w' => e = .returned (.bool (Lib.hasSuffix s.data.toList p.data.toList)) ∧ w = w' := by
  go_enter Try.func19, Try.ntmps19
  go_wp2_with (go_at_call 36; refine (Try.strings_HasSuffix _ _ _ hs).mono ?_; rintro e w' ⟨rfl, hw⟩)
  go_ret
  exact ⟨rfl, by first | rfl | exact hw | exact hw.symm⟩

set_option maxHeartbeats 1000000 in
theorem impl_TrimPrefix (s p : ByteArray) (w : World) :
    Calls Try.prog 18 #[.string s, .string p] w fun e w' => e = .returned (.string ⟨(Lib.trimPrefix s.data.toList p.data.toList).toArray⟩) ∧ w = w' := by
  go_enter Try.func18, Try.ntmps18
  go_wp2_with (go_at_call 35; refine (Try.strings_TrimPrefix _ _ _).mono ?_; rintro e w' ⟨rfl, hw⟩)
  go_ret
  exact ⟨rfl, by first | rfl | exact hw | exact hw.symm⟩

set_option maxHeartbeats 1000000 in
theorem impl_TrimSuffix (s p : ByteArray) (hs : s.size ≤ 9223372036854775807) (w : World) :
    Calls Try.prog 20 #[.string s, .string p] w fun e w' => e = .returned (.string ⟨(Lib.trimSuffix s.data.toList p.data.toList).toArray⟩) ∧ w = w' := by
  go_enter Try.func20, Try.ntmps20
  go_wp2_with (go_at_call 37; refine (Try.strings_TrimSuffix _ _ _ hs).mono ?_; rintro e w' ⟨rfl, hw⟩)
  go_ret
  exact ⟨rfl, by first | rfl | exact hw | exact hw.symm⟩

set_option maxHeartbeats 1000000 in
theorem impl_CutPrefix (s p : ByteArray) (w : World) :
    Calls Try.prog 15 #[.string s, .string p] w fun e w' => e = .returned (.tuple #[.string ⟨(Lib.trimPrefix s.data.toList p.data.toList).toArray⟩, .bool (Lib.hasPrefix s.data.toList p.data.toList)]) ∧ w = w' := by
  go_enter Try.func15, Try.ntmps15
  go_wp2_with (go_at_call 33; refine (Try.strings_CutPrefix _ _ _).mono ?_; rintro e w' ⟨rfl, hw⟩)
  go_ret2
  exact ⟨rfl, by first | rfl | exact hw | exact hw.symm⟩

set_option maxHeartbeats 1000000 in
theorem impl_CutSuffix (s p : ByteArray) (hs : s.size ≤ 9223372036854775807) (w : World) :
    Calls Try.prog 14 #[.string s, .string p] w fun e w' => e = .returned (.tuple #[.string ⟨(Lib.trimSuffix s.data.toList p.data.toList).toArray⟩, .bool (Lib.hasSuffix s.data.toList p.data.toList)]) ∧ w = w' := by
  go_enter Try.func14, Try.ntmps14
  go_wp2_with (go_at_call 32; refine (Try.strings_CutSuffix _ _ _ hs).mono ?_; rintro e w' ⟨rfl, hw⟩)
  go_ret2
  exact ⟨rfl, by first | rfl | exact hw | exact hw.symm⟩

set_option maxHeartbeats 1000000 in
theorem impl_IndexByte (s : ByteArray) (c : Int) (w : World) :
    Calls Try.prog 24 #[.string s, .int .u8 c] w fun e w' => e = .returned (.int .i64 (Lib.indexByte s.data.toList c.toNat.toUInt8)) ∧ w = w' := by
  go_enter Try.func24, Try.ntmps24
  go_wp2_with (go_at_call 41; refine (Try.strings_IndexByte _ _ _).mono ?_; rintro e w' ⟨rfl, hw⟩)
  go_ret
  exact ⟨rfl, by first | rfl | exact hw | exact hw.symm⟩

set_option maxHeartbeats 1000000 in
theorem impl_LastIndexByte (s : ByteArray) (c : Int) (hs : s.size < 4611686018427387904) (w : World) :
    Calls Try.prog 25 #[.string s, .int .u8 c] w fun e w' => e = .returned (.int .i64 (Lib.lastIndexByte s c)) ∧ w = w' := by
  go_enter Try.func25, Try.ntmps25
  go_wp2_with (go_at_call 42; refine (Try.strings_LastIndexByte _ _ hs _).mono ?_; rintro e w' ⟨rfl, hw⟩)
  go_ret
  exact ⟨rfl, by first | rfl | exact hw | exact hw.symm⟩






end Go.Proofs.Ytmfjmikiebijgaa
