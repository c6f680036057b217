/-
  Contracts of the reference's functions on bytes: compare, begins, ends, firstByte, lastByte. No condition but that a string's length is a length.
-/
import Derived.Test.YtddlenodpjhmgaaBase
import Derived.Lib.Bytealg
import Derived.Lib.LastIndexByte
import Derived.Lib.IndexBytes
namespace Go.Proofs.Ytddlenodpjhmgaa
open Go.RowKit
set_option linter.unusedVariables false

theorem cmp_lt (a b : ByteArray) (k : Nat) (ha : k < a.size) (hb : k < b.size) (h : (a[k].toNat : Int) < b[k].toNat) :
    -1 = Lib.compareBytes (a.data.toList.drop k) (b.data.toList.drop k) := by
  rw [drop_get a k ha, drop_get b k hb]
  simp only [Lib.compareBytes]
  rw [if_pos (by rw [UInt8.lt_iff_toNat_lt]; omega)]
theorem cmp_gt (a b : ByteArray) (k : Nat) (ha : k < a.size) (hb : k < b.size) (h : (b[k].toNat : Int) < a[k].toNat) :
    1 = Lib.compareBytes (a.data.toList.drop k) (b.data.toList.drop k) := by
  rw [drop_get a k ha, drop_get b k hb]
  simp only [Lib.compareBytes]
  rw [if_neg (by rw [UInt8.lt_iff_toNat_lt]; omega), if_pos (by rw [UInt8.lt_iff_toNat_lt]; omega)]
theorem cmp_eq (a b : ByteArray) (k : Nat) (ha : k < a.size) (hb : k < b.size) (h1 : ¬ (b[k].toNat : Int) < a[k].toNat) (h2 : ¬ (a[k].toNat : Int) < b[k].toNat) :
    Lib.compareBytes (a.data.toList.drop k) (b.data.toList.drop k) = Lib.compareBytes (a.data.toList.drop (k + 1)) (b.data.toList.drop (k + 1)) := by
  rw [drop_get a k ha, drop_get b k hb]
  conv => lhs; simp only [Lib.compareBytes]
  rw [if_neg (by rw [UInt8.lt_iff_toNat_lt]; omega), if_neg (by rw [UInt8.lt_iff_toNat_lt]; omega)]
theorem cmp_end (a b : ByteArray) (k : Nat) (h : a.size ≤ k ∨ b.size ≤ k) (ha : k ≤ a.size) (hb : k ≤ b.size) :
    (if a.size < b.size then -1 else if b.size < a.size then 1 else 0) = Lib.compareBytes (a.data.toList.drop k) (b.data.toList.drop k) := by
  symm
  rcases h with h | h
  · obtain rfl : k = a.size := by omega
    rw [drop_end a _ (Nat.le_refl _)]
    by_cases hb' : a.size < b.size
    · rw [drop_get b _ hb', if_pos hb']; simp [Lib.compareBytes]
    · rw [if_neg hb', if_neg (by omega), drop_end b _ (by omega)]; simp [Lib.compareBytes]
  · obtain rfl : k = b.size := by omega
    rw [drop_end b _ (Nat.le_refl _)]
    by_cases hb' : b.size < a.size
    · rw [drop_get a _ hb', if_neg (by omega), if_pos hb']; simp [Lib.compareBytes]
    · rw [if_neg (by omega), if_neg hb', drop_end a _ (by omega)]; simp [Lib.compareBytes]

set_option maxHeartbeats 1000000 in
theorem spec_compare (a b : ByteArray) (ha : a.size ≤ maxLen) (hb : b.size ≤ maxLen) (w : World) :
    Calls Try.prog 34 #[.string a, .string b] w fun e w' => e = .returned (.int .i64 (Lib.compareBytes a.data.toList b.data.toList)) ∧ Dr w w' := by
  unfold maxLen at ha hb
  go_enter Try.func34, Try.ntmps34
  go_wp2
  go_loopw [5] (fun vi wr => ∃ k : Nat, k ≤ a.size ∧ k ≤ b.size ∧ vi = .int .i64 k ∧ Hid (Lib.compareBytes a.data.toList b.data.toList = Lib.compareBytes (a.data.toList.drop k) (b.data.toList.drop k)) ∧ Hid (Dr w wr)) (fun vi _ => a.size - (intOf vi).toNat)
  case atStart => exact ⟨0, Nat.zero_le _, Nat.zero_le _, rfl, rfl, Dr.refl _⟩
  case round =>
    obtain ⟨k, hka, hkb, rfl, HC, HW⟩ := hrel
    have hfin : ∀ n : Int, n = Lib.compareBytes (a.data.toList.drop k) (b.data.toList.drop k) → Ending.returned (.int .i64 n) = .returned (.int .i64 (Lib.compareBytes a.data.toList b.data.toList)) := fun n h => ret_int (h.trans HC.out.symm)
    have HF := Lib.hid hfin; clear hfin
    by_cases h1 : k < a.size
    · by_cases h2 : k < b.size
      · by_cases h3 : (a[k].toNat : Int) < b[k].toNat
        · go_wp2
          go_quiet (fail)
          go_wp2
          go_ret
          exact ⟨HF.out _ (cmp_lt a b k h1 h2 h3), HW.out.more _⟩
        · have h3' : decide (a[k].toNat < b[k].toNat) = false := by simp; omega
          by_cases h4 : (b[k].toNat : Int) < a[k].toNat
          · go_wp2
            go_quiet (fail)
            go_wp2
            go_quiet (fail)
            go_wp2
            go_ret
            exact ⟨HF.out _ (cmp_gt a b k h1 h2 h4), (HW.out.more _).more _⟩
          · have h4' : decide (b[k].toNat < a[k].toNat) = false := by simp; omega
            have HS := Lib.hid (cmp_eq a b k h1 h2 h4 h3)
            go_wp2
            go_quiet (fail)
            go_wp2
            go_quiet (fail)
            go_wp2
            go_roundw
            case rel => exact ⟨k + 1, by omega, by omega, by go_num, HC.out.trans HS.out, HW.out.more _⟩
            case measure => simp [intOf]; omega
      · have HE := Lib.hid (cmp_end a b k (Or.inr (by omega)) hka hkb)
        go_wp2
        go_ret
        exact ⟨HF.out _ (by rw [← HE.out, if_neg (by omega), if_pos (by omega)]), HW.out⟩
    · have HE := Lib.hid (cmp_end a b k (Or.inl (by omega)) hka hkb)
      go_wp2
      · go_ret
        exact ⟨HF.out _ (by rw [← HE.out, if_pos (by omega)]), HW.out⟩
      · go_ret
        exact ⟨HF.out _ (by rw [← HE.out, if_neg (by omega), if_neg (by omega)]), HW.out⟩

set_option maxHeartbeats 1000000 in
theorem spec_begins (s t : ByteArray) (w : World) :
    Calls Try.prog 35 #[.string s, .string t] w fun e w' => e = .returned (.bool (Lib.hasPrefix s.data.toList t.data.toList)) ∧ w = w' := by
  rw [← Lib.hasPrefix_raw]
  go_enter Try.func35, Try.ntmps35
  go_wp2
  all_goals (go_ret; refine ⟨?_, rfl⟩; simp_all; try (intro h; omega))

set_option maxHeartbeats 1000000 in
theorem spec_ends (s t : ByteArray) (hs : s.size ≤ maxLen) (w : World) :
    Calls Try.prog 37 #[.string s, .string t] w fun e w' => e = .returned (.bool (Lib.hasSuffix s.data.toList t.data.toList)) ∧ w = w' := by
  rw [← Lib.hasSuffix_raw]
  unfold maxLen at hs
  go_enter Try.func37, Try.ntmps37
  go_wp2
  all_goals (go_ret; refine ⟨?_, rfl⟩; simp_all; try (intro h; omega))

theorem idx_nil (c : UInt8) : Lib.indexByte [] c = -1 := rfl
theorem idx_hit (b c : UInt8) (l : List UInt8) (h : b = c) : Lib.indexByte (b :: l) c = 0 := by simp [Lib.indexByte, h]
/-- the first place, told from k on -/
def fromK (l : List UInt8) (c : UInt8) (k : Nat) : Int := if Lib.indexByte (l.drop k) c = -1 then -1 else Lib.indexByte (l.drop k) c + k
theorem fromK_zero (l : List UInt8) (c : UInt8) : fromK l c 0 = Lib.indexByte l c := by
  unfold fromK; simp only [List.drop_zero]; split <;> omega
theorem fromK_hit (s : ByteArray) (c : Int) (k : Nat) (h : k < s.size) (hc : ((s[k].toNat : Int) == c) = true) : fromK s.data.toList c.toNat.toUInt8 k = k := by
  have h0 : s[k] = c.toNat.toUInt8 := by
    have := beq_iff_eq.1 hc
    rw [← this]; simp
  unfold fromK; rw [drop_get s k h, idx_hit _ _ _ h0]; simp
theorem fromK_miss (s : ByteArray) (c : Int) (k : Nat) (h : k < s.size) (h0 : 0 ≤ c) (h1 : c ≤ 255) (hc : ((s[k].toNat : Int) == c) = false) : fromK s.data.toList c.toNat.toUInt8 k = fromK s.data.toList c.toNat.toUInt8 (k + 1) := by
  have hne : s[k] ≠ c.toNat.toUInt8 := by
    intro h
    have := beq_eq_false_iff_ne.1 hc
    apply this; rw [h]; simp; omega
  unfold fromK; rw [drop_get s k h]
  have hge := Lib.indexByte_ge (s.data.toList.drop (k + 1)) c.toNat.toUInt8
  simp only [Lib.indexByte, beq_eq_false_iff_ne.2 hne]
  simp only [Bool.false_eq_true, if_false, beq_iff_eq]
  split
  · simp [*]
  · rw [if_neg (by omega)]; omega
theorem fromK_end (s : ByteArray) (c : UInt8) (k : Nat) (h : s.size ≤ k) : fromK s.data.toList c k = -1 := by
  unfold fromK; rw [drop_end s k h]; rfl

set_option maxHeartbeats 1000000 in
theorem spec_firstByte (s : ByteArray) (c : Int) (hs : s.size ≤ maxLen) (h0 : 0 ≤ c) (h1 : c ≤ 255) (w : World) :
    Calls Try.prog 39 #[.string s, .int .u8 c] w fun e w' => e = .returned (.int .i64 (Lib.indexByte s.data.toList c.toNat.toUInt8)) ∧ w = w' := by
  unfold maxLen at hs
  go_enter Try.func39, Try.ntmps39
  go_wp2
  go_loop [5] (fun vi => ∃ k : Nat, k ≤ s.size ∧ vi = .int .i64 k ∧ Hid (fromK s.data.toList c.toNat.toUInt8 k = Lib.indexByte s.data.toList c.toNat.toUInt8)) (fun vi => s.size - (intOf vi).toNat)
  case atStart => exact ⟨0, Nat.zero_le _, rfl, fromK_zero _ _⟩
  case round =>
    obtain ⟨k, hk, rfl, HC⟩ := hrel
    by_cases hlt : k < s.size
    · cases hb : ((s[k].toNat : Int) == c)
      · have HS := Lib.hid (fromK_miss s c k hlt h0 h1 hb)
        go_wp2
        go_round
        case rel => exact ⟨k + 1, by omega, by go_num, HS.out.symm.trans HC.out⟩
        case measure => simp [intOf]; omega
      · have HS := Lib.hid (fromK_hit s c k hlt hb)
        go_wp2
        go_ret
        exact ⟨ret_int (HS.out.symm.trans HC.out), rfl⟩
    · have HS := Lib.hid (fromK_end s c.toNat.toUInt8 k (by omega))
      go_wp2
      go_ret
      exact ⟨ret_int (HS.out.symm.trans HC.out), rfl⟩

theorem byteBang (s : ByteArray) (j : Nat) (hj : j < s.size) : s.data[j]! = s[j] := by
  rw [getElem!_pos s.data j (by simpa using hj)]; rfl

set_option maxHeartbeats 1000000 in
theorem spec_lastByte (s : ByteArray) (c : Int) (hs : s.size ≤ maxLen) (w : World) :
    Calls Try.prog 41 #[.string s, .int .u8 c] w fun e w' => e = .returned (.int .i64 (Lib.lastIndexByte s c)) ∧ w = w' := by
  unfold maxLen at hs
  go_enter Try.func41, Try.ntmps41
  go_wp2
  go_loop [5] (fun vi => ∃ k : Nat, k ≤ s.size ∧ vi = .int .i64 ((k : Int) - 1) ∧ Hid (Lib.lastIdx s c k = Lib.lastIndexByte s c)) (fun vi => ((intOf vi) + 1).toNat)
  case atStart => exact ⟨s.size, Nat.le_refl _, by first | rfl | go_num | (congr 1; omega), rfl⟩
  case round =>
    obtain ⟨k, hk, rfl, HC⟩ := hrel
    cases k with
    | zero =>
      go_wp2
      go_ret
      exact ⟨ret_int HC.out, rfl⟩
    | succ k =>
      rw [show ((k + 1 : Nat) : Int) - 1 = (k : Int) by omega]
      have hlt : k < s.size := by omega
      cases hb : ((s[k].toNat : Int) == c)
      · have HS := Lib.hid (Lib.lastIdx_miss s c k (by rw [byteBang s k hlt]; simpa using hb))
        go_wp2
        go_round
        case rel => exact ⟨k, by omega, by go_num, HS.out.symm.trans HC.out⟩
        case measure => simp [intOf]
      · have HS := Lib.hid (Lib.lastIdx_hit s c k (by rw [byteBang s k hlt]; simpa using hb))
        go_wp2
        go_ret
        exact ⟨ret_int (HS.out.symm.trans HC.out), rfl⟩
end Go.Proofs.Ytddlenodpjhmgaa
