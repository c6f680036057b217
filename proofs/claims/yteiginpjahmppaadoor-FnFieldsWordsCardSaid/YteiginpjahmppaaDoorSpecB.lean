/-
  Contracts of the reference's index and lastIndex, of those who call them, and of the thin package's LastIndex. Condition: the texts' lengths are below 2^61.
-/
import Derived.Test.YteiginpjahmppaaDoorBase
import Derived.Test.YteiginpjahmppaaDoorShelf
import Derived.Lib.Index
import Derived.Lib.IndexBytes
import Derived.Lib.IndexLaws
import Derived.Lib.IndexMore
import Derived.Lib.LastIndexLaws
namespace Go.Proofs.YteiginpjahmppaaDoor
open Go.RowKit
set_option linter.unusedVariables false

theorem idx_end (s t : ByteArray) (k : Nat) (h : Lib.NoOcc s.data.toList t.data.toList k) (hk : s.size < k + t.size) : Lib.index s.data.toList t.data.toList = -1 := by
  refine Lib.index_none fun j hj => ?_
  by_cases e : j < k
  · exact h j e
  · cases ho : Lib.occAt s.data.toList t.data.toList j
    · rfl
    · rcases Lib.occAt_room ho with h1 | h1
      · simp only [len_data] at h1 hj; omega
      · have := len_data t; rw [h1] at this; simp at this; simp only [len_data] at hj; omega

set_option maxHeartbeats 1000000 in
theorem spec_index (s t : ByteArray) (hs : s.size ≤ 2305843009213693952) (ht : t.size ≤ 2305843009213693952) (w : World) :
    Calls Tryd.prog 50 #[.string s, .string t] w fun e w' => e = .returned (.int .i64 (Lib.index s.data.toList t.data.toList)) ∧ w = w' := by
  go_enter Tryd.func50, Tryd.ntmps50
  go_wp2
  go_loop [5] (fun vi => ∃ k : Nat, k ≤ s.size + 1 ∧ vi = .int .i64 k ∧ Hid (Lib.NoOcc s.data.toList t.data.toList k)) (fun vi => s.size + 1 - (intOf vi).toNat)
  case atStart => exact ⟨0, Nat.zero_le _, rfl, fun _ h => absurd h (Nat.not_lt_zero _)⟩
  case round =>
    obtain ⟨k, hk, rfl, HN⟩ := hrel
    by_cases hlt : k + t.size ≤ s.size
    · have ho := Lib.occ_of_piece s t k hlt
      cases hb : ((s.extract k (k + t.size)).toList == t.toList)
      · have HO := Lib.hid (ho.trans hb); clear ho
        go_wp2
        go_round
        case rel => exact ⟨k + 1, by omega, by go_num, HN.out.succ HO.out⟩
        case measure => simp [intOf]; omega
      · have HO := Lib.hid (ho.trans hb); clear ho
        go_wp2
        go_ret
        exact ⟨ret_int (Lib.index_hit HN.out (by rw [len_data]; omega) HO.out).symm, rfl⟩
    · have HE := Lib.hid (idx_end s t k HN.out (by omega))
      go_wp2
      go_ret
      exact ⟨ret_int HE.out.symm, rfl⟩

theorem contains_bool (s t : List UInt8) : (decide (0 ≤ Lib.index s t)) = true ∨ (decide (0 ≤ Lib.index s t)) = false := by cases decide (0 ≤ Lib.index s t) <;> simp
set_option maxHeartbeats 1000000 in
theorem spec_Contains (s t : ByteArray) (hs : s.size ≤ 2305843009213693952) (ht : t.size ≤ 2305843009213693952) (w : World) :
    Calls Tryd.prog 32 #[.string s, .string t] w fun e w' => e = .returned (.bool (decide (0 ≤ Lib.index s.data.toList t.data.toList))) ∧ w = w' := by
  go_enter Tryd.func32, Tryd.ntmps32
  go_wp2_with (go_at_call 50; refine (spec_index _ _ hs ht _).mono ?_; rintro e w' ⟨rfl, rfl⟩)
  go_ret
  exact ⟨rfl, rfl⟩
end Go.Proofs.YteiginpjahmppaaDoor
