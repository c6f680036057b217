/-
  Contracts of the reference's CutPrefix, CutSuffix, TrimPrefix, TrimSuffix. No condition but that a string's length is a length.
-/
import Derived.Test.YtddlenodpjhmgaaSpecA
namespace Go.Proofs.Ytddlenodpjhmgaa
open Go.RowKit

theorem pre_le {s p : ByteArray} (h : Lib.hasPrefix s.data.toList p.data.toList = true) : p.size ≤ s.size := by
  rw [← Lib.hasPrefix_raw] at h; simp at h; omega
theorem suf_le {s p : ByteArray} (h : Lib.hasSuffix s.data.toList p.data.toList = true) : p.size ≤ s.size := by
  rw [← Lib.hasSuffix_raw] at h; simp at h; omega
theorem trimP_yes {s p : ByteArray} (h : Lib.hasPrefix s.data.toList p.data.toList = true) : s.extract p.size s.size = ⟨(Lib.trimPrefix s.data.toList p.data.toList).toArray⟩ := by
  refine (Lib.trimPrefix_hit s p (pre_le h) ?_).symm
  rw [← Lib.hasPrefix_raw] at h; simp at h; simp [h.2]
theorem trimP_no {s p : ByteArray} (h : Lib.hasPrefix s.data.toList p.data.toList = false) : s = ⟨(Lib.trimPrefix s.data.toList p.data.toList).toArray⟩ :=
  (Lib.trimPrefix_miss s p (by rw [Lib.hasPrefix_raw, h])).symm
theorem trimS_yes {s p : ByteArray} (h : Lib.hasSuffix s.data.toList p.data.toList = true) : s.extract 0 (s.size - p.size) = ⟨(Lib.trimSuffix s.data.toList p.data.toList).toArray⟩ := by
  refine (Lib.trimSuffix_hit s p (suf_le h) ?_).symm
  rw [← Lib.hasSuffix_raw] at h; simp at h; simp [h.2]
theorem trimS_no {s p : ByteArray} (h : Lib.hasSuffix s.data.toList p.data.toList = false) : s = ⟨(Lib.trimSuffix s.data.toList p.data.toList).toArray⟩ :=
  (Lib.trimSuffix_miss s p (by rw [Lib.hasSuffix_raw, h])).symm
theorem ret_cut {a b : ByteArray} {x y : Bool} (h : a = b) (k : x = y) : Ending.returned (.tuple #[.string a, .bool x]) = .returned (.tuple #[.string b, .bool y]) := by rw [h, k]

set_option maxHeartbeats 1000000 in
theorem spec_CutPrefix (s p : ByteArray) (w : World) :
    Calls Try.prog 25 #[.string s, .string p] w fun e w' => e = .returned (.tuple #[.string ⟨(Lib.trimPrefix s.data.toList p.data.toList).toArray⟩, .bool (Lib.hasPrefix s.data.toList p.data.toList)]) ∧ w = w' := by
  cases h : Lib.hasPrefix s.data.toList p.data.toList
  · have HT := Lib.hid (trimP_no h)
    go_enter Try.func25, Try.ntmps25
    go_wp2_with (go_at_call 35; refine (spec_begins _ _ _).mono ?_; rintro e w' ⟨rfl, rfl⟩; rw [h])
    go_ret2
    exact ⟨ret_cut HT.out rfl, rfl⟩
  · have HT := Lib.hid (trimP_yes h)
    have hl := pre_le h
    go_enter Try.func25, Try.ntmps25
    go_wp2_with (go_at_call 35; refine (spec_begins _ _ _).mono ?_; rintro e w' ⟨rfl, rfl⟩; rw [h])
    go_ret2
    exact ⟨ret_cut HT.out rfl, rfl⟩

set_option maxHeartbeats 1000000 in
theorem spec_CutSuffix (s p : ByteArray) (hs : s.size ≤ maxLen) (w : World) :
    Calls Try.prog 27 #[.string s, .string p] w fun e w' => e = .returned (.tuple #[.string ⟨(Lib.trimSuffix s.data.toList p.data.toList).toArray⟩, .bool (Lib.hasSuffix s.data.toList p.data.toList)]) ∧ w = w' := by
  have hs' := hs
  unfold maxLen at hs'
  cases h : Lib.hasSuffix s.data.toList p.data.toList
  · have HT := Lib.hid (trimS_no h)
    go_enter Try.func27, Try.ntmps27
    go_wp2_with (go_at_call 37; refine (spec_ends _ _ hs _).mono ?_; rintro e w' ⟨rfl, rfl⟩; rw [h])
    go_ret2
    exact ⟨ret_cut HT.out rfl, rfl⟩
  · have HT := Lib.hid (trimS_yes h)
    have hl := suf_le h
    go_enter Try.func27, Try.ntmps27
    go_wp2_with (go_at_call 37; refine (spec_ends _ _ hs _).mono ?_; rintro e w' ⟨rfl, rfl⟩; rw [h])
    go_ret2
    exact ⟨ret_cut HT.out rfl, rfl⟩

set_option maxHeartbeats 1000000 in
theorem spec_TrimPrefix (s p : ByteArray) (w : World) :
    Calls Try.prog 29 #[.string s, .string p] w fun e w' => e = .returned (.string ⟨(Lib.trimPrefix s.data.toList p.data.toList).toArray⟩) ∧ w = w' := by
  go_enter Try.func29, Try.ntmps29
  go_wp2_with (go_at_call 25; refine (spec_CutPrefix _ _ _).mono ?_; rintro e w' ⟨rfl, rfl⟩)
  go_ret
  exact ⟨rfl, rfl⟩

set_option maxHeartbeats 1000000 in
theorem spec_TrimSuffix (s p : ByteArray) (hs : s.size ≤ maxLen) (w : World) :
    Calls Try.prog 31 #[.string s, .string p] w fun e w' => e = .returned (.string ⟨(Lib.trimSuffix s.data.toList p.data.toList).toArray⟩) ∧ w = w' := by
  go_enter Try.func31, Try.ntmps31
  go_wp2_with (go_at_call 27; refine (spec_CutSuffix _ _ hs _).mono ?_; rintro e w' ⟨rfl, rfl⟩)
  go_ret
  exact ⟨rfl, rfl⟩
end Go.Proofs.Ytddlenodpjhmgaa
