/-
  Contracts of the reference's functions on bytes: compare, begins, ends, firstByte, lastByte. No condition but that a string's length is a length.
-/
import Derived.Test.YtapdpkojjkbccaaBase
import Derived.Lib.Bytealg
import Derived.Lib.LastIndexByte
import Derived.Lib.IndexBytes
namespace Go.Proofs.Ytapdpkojjkbccaa
open Go.RowKit
set_option linter.unusedVariables false

theorem cmp_lt (a b : ByteArray) (k : Nat) (ha : k < a.size) (hb : k < b.size) (h : (a[k].toNat : Int) < b[k].toNat) :
    -1 = Lib.compareBytes (a.data.toList.drop k) (b.data.toList.drop k) := by
  rw [drop_get a k ha, drop_get b k hb]
  simp only [Lib.compareBytes]
  rw [if_pos (by rw [UInt8.lt_iff_toNat_lt]; omega)]
theorem cmp_gt (a b : ByteArray) (k : Nat) (ha : k < a.size) (hb : k < b.size) (h : (b[k].toNat : Int) < a[k].toNat) :
    1 = Lib.compareBytes (a.data.toList.drop k) (b.data.toList.drop k) := by
  rw [drop_get a k ha, drop_get b k hb]
  simp only [Lib.compareBytes]
  rw [if_neg (by rw [UInt8.lt_iff_toNat_lt]; omega), if_pos (by rw [UInt8.lt_iff_toNat_lt]; omega)]
theorem cmp_eq (a b : ByteArray) (k : Nat) (ha : k < a.size) (hb : k < b.size) (h1 : ¬ (b[k].toNat : Int) < a[k].toNat) (h2 : ¬ (a[k].toNat : Int) < b[k].toNat) :
    Lib.compareBytes (a.data.toList.drop k) (b.data.toList.drop k) = Lib.compareBytes (a.data.toList.drop (k + 1)) (b.data.toList.drop (k + 1)) := by
  rw [drop_get a k ha, drop_get b k hb]
  conv => lhs; simp only [Lib.compareBytes]
  rw [if_neg (by rw [UInt8.lt_iff_toNat_lt]; omega), if_neg (by rw [UInt8.lt_iff_toNat_lt]; omega)]
theorem cmp_end (a b : ByteArray) (k : Nat) (h : a.size ≤ k ∨ b.size ≤ k) (ha : k ≤ a.size) (hb : k ≤ b.size) :
    (if a.size < b.size then -1 else if b.size < a.size then 1 else 0) = Lib.compareBytes (a.data.toList.drop k) (b.data.toList.drop k) := by
  symm
  rcases h with h | h
  · obtain rfl : k = a.size := by omega
    rw [drop_end a _ (Nat.le_refl _)]
    by_cases hb' : a.size < b.size
    · rw [drop_get b _ hb', if_pos hb']; simp [Lib.compareBytes]
    · rw [if_neg hb', if_neg (by omega), drop_end b _ (by omega)]; simp [Lib.compareBytes]
  · obtain rfl : k = b.size := by omega
    rw [drop_end b _ (Nat.le_refl _)]
    by_cases hb' : b.size < a.size
    · rw [drop_get a _ hb', if_neg (by omega), if_pos hb']; simp [Lib.compareBytes]
    · rw [if_neg (by omega), if_neg hb', drop_end a _ (by omega)]; simp [Lib.compareBytes]




theorem idx_nil (c : UInt8) : Lib.indexByte [] c = -1 := rfl
theorem idx_hit (b c : UInt8) (l : List UInt8) (h : b = c) : Lib.indexByte (b :: l) c = 0 := by simp [Lib.indexByte, h]
/-- the first place, told from k on -/
def fromK (l : List UInt8) (c : UInt8) (k : Nat) : Int := if Lib.indexByte (l.drop k) c = -1 then -1 else Lib.indexByte (l.drop k) c + k
theorem fromK_zero (l : List UInt8) (c : UInt8) : fromK l c 0 = Lib.indexByte l c := by
  unfold fromK; simp only [List.drop_zero]; split <;> omega
theorem fromK_hit (s : ByteArray) (c : Int) (k : Nat) (h : k < s.size) (hc : ((s[k].toNat : Int) == c) = true) : fromK s.data.toList c.toNat.toUInt8 k = k := by
  have h0 : s[k] = c.toNat.toUInt8 := by
    have := beq_iff_eq.1 hc
    rw [← this]; simp
  unfold fromK; rw [drop_get s k h, idx_hit _ _ _ h0]; simp
theorem fromK_miss (s : ByteArray) (c : Int) (k : Nat) (h : k < s.size) (h0 : 0 ≤ c) (h1 : c ≤ 255) (hc : ((s[k].toNat : Int) == c) = false) : fromK s.data.toList c.toNat.toUInt8 k = fromK s.data.toList c.toNat.toUInt8 (k + 1) := by
  have hne : s[k] ≠ c.toNat.toUInt8 := by
    intro h
    have := beq_eq_false_iff_ne.1 hc
    apply this; rw [h]; simp; omega
  unfold fromK; rw [drop_get s k h]
  have hge := Lib.indexByte_ge (s.data.toList.drop (k + 1)) c.toNat.toUInt8
  simp only [Lib.indexByte, beq_eq_false_iff_ne.2 hne]
  simp only [Bool.false_eq_true, if_false, beq_iff_eq]
  split
  · simp [*]
  · rw [if_neg (by omega)]; omega
theorem fromK_end (s : ByteArray) (c : UInt8) (k : Nat) (h : s.size ≤ k) : fromK s.data.toList c k = -1 := by
  unfold fromK; rw [drop_end s k h]; rfl


theorem byteBang (s : ByteArray) (j : Nat) (hj : j < s.size) : s.data[j]! = s[j] := by
  rw [getElem!_pos s.data j (by simpa using hj)]; rfl

end Go.Proofs.Ytapdpkojjkbccaa
