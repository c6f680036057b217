/-
  Contracts of the thin package's and the reference's small functions over bytes: each calls one function, whose contract is at hand.
-/
import Derived.Test.YtddlenodpjhmgaaSpecA
import Derived.Test.YtddlenodpjhmgaaShelf
namespace Go.Proofs.Ytddlenodpjhmgaa
open Go.RowKit
set_option linter.unusedVariables false

set_option maxHeartbeats 1000000 in
theorem impl_Compare (s p : ByteArray) (w : World) :
    Calls Try.prog 15 #[.string s, .string p] w fun e w' => e = .returned (.int .i64 (Lib.compareBytes s.data.toList p.data.toList)) ∧ w = w' := by
  go_enter Try.func15, Try.ntmps15
  go_wp2_with (go_at_call 33; refine (Try.strings_Compare _ _ _).mono ?_; rintro e w' ⟨rfl, hw⟩)
  go_ret
  exact ⟨rfl, by first | rfl | exact hw | exact hw.symm⟩

set_option maxHeartbeats 1000000 in
theorem impl_HasPrefix (s p : ByteArray) (w : World) :
    Calls Try.prog 18 #[.string s, .string p] w fun e w' => e = .returned (.bool (Lib.hasPrefix s.data.toList p.data.toList)) ∧ w = w' := by
  go_enter Try.func18, Try.ntmps18
  go_wp2_with (go_at_call 36; refine (Try.strings_HasPrefix _ _ _).mono ?_; rintro e w' ⟨rfl, hw⟩)
  go_ret
  exact ⟨rfl, by first | rfl | exact hw | exact hw.symm⟩

set_option maxHeartbeats 1000000 in
theorem impl_HasSuffix (s p : ByteArray) (hs : s.size ≤ 9223372036854775807) (w : World) :
    Calls Try.prog 20 #[.string s, .string p] w fun e w' => e = .returned (.bool (Lib.hasSuffix s.data.toList p.data.toList)) ∧ w = w' := by
  go_enter Try.func20, Try.ntmps20
  go_wp2_with (go_at_call 38; refine (Try.strings_HasSuffix _ _ _ hs).mono ?_; rintro e w' ⟨rfl, hw⟩)
  go_ret
  exact ⟨rfl, by first | rfl | exact hw | exact hw.symm⟩

set_option maxHeartbeats 1000000 in
theorem impl_TrimPrefix (s p : ByteArray) (w : World) :
    Calls Try.prog 30 #[.string s, .string p] w fun e w' => e = .returned (.string ⟨(Lib.trimPrefix s.data.toList p.data.toList).toArray⟩) ∧ w = w' := by
  go_enter Try.func30, Try.ntmps30
  go_wp2_with (go_at_call 45; refine (Try.strings_TrimPrefix _ _ _).mono ?_; rintro e w' ⟨rfl, hw⟩)
  go_ret
  exact ⟨rfl, by first | rfl | exact hw | exact hw.symm⟩

set_option maxHeartbeats 1000000 in
theorem impl_TrimSuffix (s p : ByteArray) (hs : s.size ≤ 9223372036854775807) (w : World) :
    Calls Try.prog 32 #[.string s, .string p] w fun e w' => e = .returned (.string ⟨(Lib.trimSuffix s.data.toList p.data.toList).toArray⟩) ∧ w = w' := by
  go_enter Try.func32, Try.ntmps32
  go_wp2_with (go_at_call 46; refine (Try.strings_TrimSuffix _ _ _ hs).mono ?_; rintro e w' ⟨rfl, hw⟩)
  go_ret
  exact ⟨rfl, by first | rfl | exact hw | exact hw.symm⟩

set_option maxHeartbeats 1000000 in
theorem impl_CutPrefix (s p : ByteArray) (w : World) :
    Calls Try.prog 26 #[.string s, .string p] w fun e w' => e = .returned (.tuple #[.string ⟨(Lib.trimPrefix s.data.toList p.data.toList).toArray⟩, .bool (Lib.hasPrefix s.data.toList p.data.toList)]) ∧ w = w' := by
  go_enter Try.func26, Try.ntmps26
  go_wp2_with (go_at_call 43; refine (Try.strings_CutPrefix _ _ _).mono ?_; rintro e w' ⟨rfl, hw⟩)
  go_ret2
  exact ⟨rfl, by first | rfl | exact hw | exact hw.symm⟩

set_option maxHeartbeats 1000000 in
theorem impl_CutSuffix (s p : ByteArray) (hs : s.size ≤ 9223372036854775807) (w : World) :
    Calls Try.prog 28 #[.string s, .string p] w fun e w' => e = .returned (.tuple #[.string ⟨(Lib.trimSuffix s.data.toList p.data.toList).toArray⟩, .bool (Lib.hasSuffix s.data.toList p.data.toList)]) ∧ w = w' := by
  go_enter Try.func28, Try.ntmps28
  go_wp2_with (go_at_call 44; refine (Try.strings_CutSuffix _ _ _ hs).mono ?_; rintro e w' ⟨rfl, hw⟩)
  go_ret2
  exact ⟨rfl, by first | rfl | exact hw | exact hw.symm⟩

set_option maxHeartbeats 1000000 in
theorem impl_IndexByte (s : ByteArray) (c : Int) (w : World) :
    Calls Try.prog 22 #[.string s, .int .u8 c] w fun e w' => e = .returned (.int .i64 (Lib.indexByte s.data.toList c.toNat.toUInt8)) ∧ w = w' := by
  go_enter Try.func22, Try.ntmps22
  go_wp2_with (go_at_call 40; refine (Try.strings_IndexByte _ _ _).mono ?_; rintro e w' ⟨rfl, hw⟩)
  go_ret
  exact ⟨rfl, by first | rfl | exact hw | exact hw.symm⟩

set_option maxHeartbeats 1000000 in
theorem impl_LastIndexByte (s : ByteArray) (c : Int) (hs : s.size < 4611686018427387904) (w : World) :
    Calls Try.prog 24 #[.string s, .int .u8 c] w fun e w' => e = .returned (.int .i64 (Lib.lastIndexByte s c)) ∧ w = w' := by
  go_enter Try.func24, Try.ntmps24
  go_wp2_with (go_at_call 42; refine (Try.strings_LastIndexByte _ _ hs _).mono ?_; rintro e w' ⟨rfl, hw⟩)
  go_ret
  exact ⟨rfl, by first | rfl | exact hw | exact hw.symm⟩

set_option maxHeartbeats 1000000 in
theorem spec_Compare (s p : ByteArray) (hs : s.size ≤ maxLen) (hp : p.size ≤ maxLen) (w : World) :
    Calls Try.prog 16 #[.string s, .string p] w fun e w' => e = .returned (.int .i64 (Lib.compareBytes s.data.toList p.data.toList)) ∧ Dr w w' := by
  go_enter Try.func16, Try.ntmps16
  go_wp2_with (go_at_call 34; refine (spec_compare _ _ hs hp _).mono ?_; rintro e w' ⟨rfl, hw⟩)
  go_ret
  exact ⟨rfl, hw⟩

set_option maxHeartbeats 1000000 in
theorem spec_HasPrefix (s p : ByteArray) (w : World) :
    Calls Try.prog 17 #[.string s, .string p] w fun e w' => e = .returned (.bool (Lib.hasPrefix s.data.toList p.data.toList)) ∧ w = w' := by
  go_enter Try.func17, Try.ntmps17
  go_wp2_with (go_at_call 35; refine (spec_begins _ _ _).mono ?_; rintro e w' ⟨rfl, hw⟩)
  go_ret
  exact ⟨rfl, by first | rfl | exact hw | exact hw.symm⟩

set_option maxHeartbeats 1000000 in
theorem spec_HasSuffix (s p : ByteArray) (hs : s.size ≤ maxLen) (w : World) :
    Calls Try.prog 19 #[.string s, .string p] w fun e w' => e = .returned (.bool (Lib.hasSuffix s.data.toList p.data.toList)) ∧ w = w' := by
  go_enter Try.func19, Try.ntmps19
  go_wp2_with (go_at_call 37; refine (spec_ends _ _ hs _).mono ?_; rintro e w' ⟨rfl, hw⟩)
  go_ret
  exact ⟨rfl, by first | rfl | exact hw | exact hw.symm⟩

set_option maxHeartbeats 1000000 in
theorem spec_IndexByte (s : ByteArray) (c : Int) (hs : s.size ≤ maxLen) (h0 : 0 ≤ c) (h1 : c ≤ 255) (w : World) :
    Calls Try.prog 21 #[.string s, .int .u8 c] w fun e w' => e = .returned (.int .i64 (Lib.indexByte s.data.toList c.toNat.toUInt8)) ∧ w = w' := by
  go_enter Try.func21, Try.ntmps21
  go_wp2_with (go_at_call 39; refine (spec_firstByte _ _ hs h0 h1 _).mono ?_; rintro e w' ⟨rfl, hw⟩)
  go_ret
  exact ⟨rfl, by first | rfl | exact hw | exact hw.symm⟩

set_option maxHeartbeats 1000000 in
theorem spec_LastIndexByte (s : ByteArray) (c : Int) (hs : s.size ≤ maxLen) (w : World) :
    Calls Try.prog 23 #[.string s, .int .u8 c] w fun e w' => e = .returned (.int .i64 (Lib.lastIndexByte s c)) ∧ w = w' := by
  go_enter Try.func23, Try.ntmps23
  go_wp2_with (go_at_call 41; refine (spec_lastByte _ _ hs _).mono ?_; rintro e w' ⟨rfl, hw⟩)
  go_ret
  exact ⟨rfl, by first | rfl | exact hw | exact hw.symm⟩

end Go.Proofs.Ytddlenodpjhmgaa
