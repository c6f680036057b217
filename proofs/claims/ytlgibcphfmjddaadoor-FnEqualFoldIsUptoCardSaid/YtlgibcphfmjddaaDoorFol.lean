/-
  The contract of the reference's follows. Condition: the text's length is at most 2^40.
-/
import Derived.Test.YtlgibcphfmjddaaDoorMem
import Derived.Test.YtlgibcphfmjddaaDoorUtf
namespace Go.Proofs.YtlgibcphfmjddaaDoor
open Go.RowKit
set_option linter.unusedVariables false

set_option maxRecDepth 100000 in
set_option maxHeartbeats 1000000 in
theorem spec_follows (s : ByteArray) (a : Int) (k m : Nat) (ha : a = (k : Int)) (hs : s.size ≤ 1099511627776) (hk : k ≤ s.size) (hm : 0 < m) (hm3 : m ≤ 3) (w : World) :
    Calls Tryd.prog 76 #[.string s, .int .i64 a, .int .i64 (m : Int)] w fun e w' => e = .returned (.bool (fol s k m)) ∧ w = w' := by
  subst ha
  by_cases hlen : k + m ≤ s.size
  · go_enter Tryd.func76, Tryd.ntmps76
    go_wp2
    go_loop [7] (fun vi => ∃ i : Nat, k ≤ i ∧ i ≤ k + m ∧ vi = .int .i64 (i : Int) ∧ Hid (fol s k (i - k) = true)) (fun vi => k + m - (intOf vi).toNat)
    case atStart => exact ⟨k, Nat.le_refl _, by omega, by simp, by rw [Nat.sub_self]; rfl⟩
    case round =>
      obtain ⟨i, hki, hj, rfl, HF⟩ := hrel
      by_cases hlt : i < k + m
      · have hin : i < s.size := by omega
        by_cases h1 : (s[i].toNat : Int) < 128
        · have HS := Lib.hid (fol_stop' s k i m hki hin hlt (Or.inl h1))
          go_wp2
          go_ret
          exact ⟨ret_bool HS.out.symm, rfl⟩
        · by_cases h2 : 191 < (s[i].toNat : Int)
          · have HS := Lib.hid (fol_stop' s k i m hki hin hlt (Or.inr h2))
            go_wp2
            go_ret
            exact ⟨ret_bool HS.out.symm, rfl⟩
          · have HS := Lib.hid (fol_step' s k i hki hin HF.out (by omega) (by omega))
            go_wp2
            go_round
            case rel => exact ⟨i + 1, by omega, by omega, by go_num, HS.out⟩
            case measure => simp [intOf]; omega
      · obtain rfl : i = k + m := by omega
        have HS := Lib.hid (show fol s k m = true by have := HF.out; rwa [show k + m - k = m by omega] at this)
        go_wp2
        go_ret
        exact ⟨ret_bool HS.out.symm, rfl⟩
  · have HS := Lib.hid (fol_short s k m hm (by omega))
    go_enter Tryd.func76, Tryd.ntmps76
    go_wp2
    go_ret
    exact ⟨ret_bool HS.out.symm, rfl⟩

end Go.Proofs.YtlgibcphfmjddaaDoor
