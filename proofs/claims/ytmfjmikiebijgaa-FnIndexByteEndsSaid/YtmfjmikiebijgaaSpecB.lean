/-
  Contracts of the reference's index and lastIndex, of those who call them, and of the thin package's LastIndex. Condition: the texts' lengths are below 2^61.
-/
import Derived.Test.YtmfjmikiebijgaaBase
import Derived.Test.YtmfjmikiebijgaaShelf
import Derived.Lib.Index
import Derived.Lib.IndexBytes
import Derived.Lib.IndexLaws
import Derived.Lib.IndexMore
import Derived.Lib.LastIndexLaws
namespace Go.Proofs.Ytmfjmikiebijgaa
open Go.RowKit
set_option linter.unusedVariables false

theorem idx_end (s t : ByteArray) (k : Nat) (h : Lib.NoOcc s.data.toList t.data.toList k) (hk : s.size < k + t.size) : Lib.index s.data.toList t.data.toList = -1 := by
  refine Lib.index_none fun j hj => ?_
  by_cases e : j < k
  · exact h j e
  · cases ho : Lib.occAt s.data.toList t.data.toList j
    · rfl
    · rcases Lib.occAt_room ho with h1 | h1
      · simp only [len_data] at h1 hj; omega
      · have := len_data t; rw [h1] at this; simp at this; simp only [len_data] at hj; omega

set_option maxHeartbeats 1000000 in
theorem spec_index (s t : ByteArray) (hs : s.size ≤ 2305843009213693952) (ht : t.size ≤ 2305843009213693952) (w : World) :
    Calls Try.prog 40 #[.string s, .string t] w fun e w' => e = .returned (.int .i64 (Lib.index s.data.toList t.data.toList)) ∧ w = w' := by
  go_enter Try.func40, Try.ntmps40
  go_wp2
  go_loop [5] (fun vi => ∃ k : Nat, k ≤ s.size + 1 ∧ vi = .int .i64 k ∧ Hid (Lib.NoOcc s.data.toList t.data.toList k)) (fun vi => s.size + 1 - (intOf vi).toNat)
  case atStart => exact ⟨0, Nat.zero_le _, rfl, fun _ h => absurd h (Nat.not_lt_zero _)⟩
  case round =>
    obtain ⟨k, hk, rfl, HN⟩ := hrel
    by_cases hlt : k + t.size ≤ s.size
    · have ho := Lib.occ_of_piece s t k hlt
      cases hb : ((s.extract k (k + t.size)).toList == t.toList)
      · have HO := Lib.hid (ho.trans hb); clear ho
        go_wp2
        go_round
        case rel => exact ⟨k + 1, by omega, by go_num, HN.out.succ HO.out⟩
        case measure => simp [intOf]; omega
      · have HO := Lib.hid (ho.trans hb); clear ho
        go_wp2
        go_ret
        exact ⟨ret_int (Lib.index_hit HN.out (by rw [len_data]; omega) HO.out).symm, rfl⟩
    · have HE := Lib.hid (idx_end s t k HN.out (by omega))
      go_wp2
      go_ret
      exact ⟨ret_int HE.out.symm, rfl⟩

theorem contains_bool (s t : List UInt8) : (decide (0 ≤ Lib.index s t)) = true ∨ (decide (0 ≤ Lib.index s t)) = false := by cases decide (0 ≤ Lib.index s t) <;> simp
set_option maxHeartbeats 1000000 in
theorem spec_Contains (s t : ByteArray) (hs : s.size ≤ 2305843009213693952) (ht : t.size ≤ 2305843009213693952) (w : World) :
    Calls Try.prog 23 #[.string s, .string t] w fun e w' => e = .returned (.bool (decide (0 ≤ Lib.index s.data.toList t.data.toList))) ∧ w = w' := by
  go_enter Try.func23, Try.ntmps23
  go_wp2_with (go_at_call 40; refine (spec_index _ _ hs ht _).mono ?_; rintro e w' ⟨rfl, rfl⟩)
  go_ret
  exact ⟨rfl, rfl⟩
set_option maxHeartbeats 1000000 in
theorem spec_lastIndex (s t : ByteArray) (hs : s.size ≤ 2305843009213693952) (ht : t.size ≤ 2305843009213693952) (w : World) :
    Calls Try.prog 38 #[.string s, .string t] w fun e w' => e = .returned (.int .i64 (Lib.lastIndex s.data.toList t.data.toList)) ∧ w = w' := by
  by_cases hle : t.size ≤ s.size
  · have hL : Lib.lastIndex s.data.toList t.data.toList = Lib.lastOcc s.data.toList t.data.toList (s.size - t.size + 1) := by
      unfold Lib.lastIndex; rw [len_data, len_data, if_pos hle]
    have HL := Lib.hid hL; clear hL
    go_enter Try.func38, Try.ntmps38
    go_wp2
    go_loop [5] (fun vi => ∃ k : Nat, k ≤ s.size - t.size + 1 ∧ vi = .int .i64 ((k : Int) - 1) ∧ Hid (Lib.lastOcc s.data.toList t.data.toList k = Lib.lastIndex s.data.toList t.data.toList)) (fun vi => (intOf vi + 1).toNat)
    case atStart => exact ⟨s.size - t.size + 1, Nat.le_refl _, by congr 1; omega, HL.out.symm⟩
    case round =>
      obtain ⟨k, hk, rfl, HC⟩ := hrel
      cases k with
      | zero =>
        go_wp2
        go_ret
        exact ⟨ret_int HC.out, rfl⟩
      | succ k =>
        rw [show ((k + 1 : Nat) : Int) - 1 = (k : Int) by omega]
        have hlt : k + t.size ≤ s.size := by omega
        have ho := Lib.occ_of_piece s t k hlt
        cases hb : ((s.extract k (k + t.size)).toList == t.toList)
        · have HS := Lib.hid (Lib.lastOcc_miss s.data.toList t.data.toList k (ho.trans hb)); clear ho
          go_wp2
          go_round
          case rel => exact ⟨k, by omega, by go_num, HS.out.symm.trans HC.out⟩
          case measure => simp [intOf]
        · have HS := Lib.hid (Lib.lastOcc_hit s.data.toList t.data.toList k (ho.trans hb)); clear ho
          go_wp2
          go_ret
          exact ⟨ret_int (HS.out.symm.trans HC.out), rfl⟩
  · have hL : -1 = Lib.lastIndex s.data.toList t.data.toList := by
      unfold Lib.lastIndex; rw [len_data, len_data, if_neg hle]
    have HL := Lib.hid hL; clear hL
    go_enter Try.func38, Try.ntmps38
    go_wp2
    refine wp_loop_rounds 1 ?_; rw [rounds_succ]
    go_wp2
    go_ret
    exact ⟨ret_int HL.out, rfl⟩
set_option maxHeartbeats 1000000 in
theorem spec_LastIndex (s t : ByteArray) (hs : s.size ≤ 2305843009213693952) (ht : t.size ≤ 2305843009213693952) (w : World) :
    Calls Try.prog 21 #[.string s, .string t] w fun e w' => e = .returned (.int .i64 (Lib.lastIndex s.data.toList t.data.toList)) ∧ w = w' := by
  go_enter Try.func21, Try.ntmps21
  go_wp2_with (go_at_call 38; refine (spec_lastIndex _ _ hs ht _).mono ?_; rintro e w' ⟨rfl, rfl⟩)
  go_ret
  exact ⟨rfl, rfl⟩
set_option maxHeartbeats 1000000 in
theorem impl_LastIndex (s t : ByteArray) (hs : s.size ≤ 2305843009213693952) (w : World) :
    Calls Try.prog 22 #[.string s, .string t] w fun e w' => e = .returned (.int .i64 (Lib.lastIndex s.data.toList t.data.toList)) ∧ w = w' := by
  go_enter Try.func22, Try.ntmps22
  go_wp2_with (go_at_call 39; refine (Try.strings_LastIndex _ _ (by omega) _).mono ?_; rintro e w' ⟨rfl, hw⟩)
  go_ret
  exact ⟨rfl, by first | rfl | exact hw.symm⟩
end Go.Proofs.Ytmfjmikiebijgaa
