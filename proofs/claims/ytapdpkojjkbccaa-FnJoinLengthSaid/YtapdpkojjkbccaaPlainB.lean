/-
  Plain laws of beginnings, ends and places of texts. No condition.
-/
import Derived.Test.YtapdpkojjkbccaaBase
import Derived.Lib.Bytealg
import Derived.Lib.Index
import Derived.Lib.IndexLaws
import Derived.Lib.IndexMore
import Derived.Lib.LastIndexLaws
import Derived.Lib.LastIndexByte
namespace Go.Proofs.Ytapdpkojjkbccaa
open Go.RowKit
set_option linter.unusedVariables false

theorem dapp (a b : ByteArray) : (a ++ b).data.toList = a.data.toList ++ b.data.toList := by simp
theorem ba_ext {a b : ByteArray} (h : a.data.toList = b.data.toList) : a = b := by rw [← Lib.mk_data a, ← Lib.mk_data b, h]
theorem data_mk (l : List UInt8) : (⟨l.toArray⟩ : ByteArray).data.toList = l := rfl
theorem hp_app (a b : List UInt8) : Lib.hasPrefix (a ++ b) a = true := by
  unfold Lib.hasPrefix; exact List.isPrefixOf_iff_prefix.2 (List.prefix_append _ _)
theorem hs_app (a b : List UInt8) : Lib.hasSuffix (a ++ b) b = true := by
  unfold Lib.hasSuffix; exact List.isSuffixOf_iff_suffix.2 (List.suffix_append _ _)
theorem tp_app (a b : List UInt8) : Lib.trimPrefix (a ++ b) a = b := by
  unfold Lib.trimPrefix; rw [if_pos (hp_app a b), List.drop_left]
theorem ts_app (a b : List UInt8) : Lib.trimSuffix (a ++ b) b = a := by
  unfold Lib.trimSuffix; rw [if_pos (hs_app a b)]; simp
theorem hp_iff (s p : List UInt8) : Lib.hasPrefix s p = true ↔ ∃ t, s = p ++ t := by
  unfold Lib.hasPrefix; rw [List.isPrefixOf_iff_prefix]; exact ⟨fun ⟨t, h⟩ => ⟨t, h.symm⟩, fun ⟨t, h⟩ => ⟨t, h.symm⟩⟩
theorem hs_iff (s p : List UInt8) : Lib.hasSuffix s p = true ↔ ∃ t, s = t ++ p := by
  unfold Lib.hasSuffix; rw [List.isSuffixOf_iff_suffix]; exact ⟨fun ⟨t, h⟩ => ⟨t, h.symm⟩, fun ⟨t, h⟩ => ⟨t, h.symm⟩⟩
theorem tp_no (s p : List UInt8) (h : Lib.hasPrefix s p = false) : Lib.trimPrefix s p = s := by unfold Lib.trimPrefix; simp [h]
theorem ts_no (s p : List UInt8) (h : Lib.hasSuffix s p = false) : Lib.trimSuffix s p = s := by unfold Lib.trimSuffix; simp [h]

theorem occ_app (a t b : List UInt8) : Lib.occAt (a ++ t ++ b) t a.length = true := by
  unfold Lib.occAt; rw [List.append_assoc, List.drop_left]; exact List.isPrefixOf_iff_prefix.2 (List.prefix_append _ _)
theorem occ_le {s t : List UInt8} {i : Nat} (h : Lib.occAt s t i = true) (hi : i ≤ s.length) : i + t.length ≤ s.length := by
  rcases Lib.occAt_room h with h | h
  · exact h
  · subst h; simpa using hi
/-- what lastIndex is -/
theorem last_spec (s t : List UInt8) : (Lib.lastIndex s t = -1 ∧ ∀ j, j ≤ s.length → Lib.occAt s t j = false) ∨
    (∃ i : Nat, i + t.length ≤ s.length ∧ Lib.lastIndex s t = i ∧ Lib.occAt s t i = true ∧ ∀ j, i < j → j ≤ s.length → Lib.occAt s t j = false) := by
  unfold Lib.lastIndex
  by_cases h : t.length ≤ s.length
  · rw [if_pos h]
    rcases Lib.lastOcc_spec s t (s.length - t.length + 1) with ⟨e, hn⟩ | ⟨i, hi, e, hc, hn⟩
    · refine .inl ⟨e, fun j hj => ?_⟩
      cases ho : Lib.occAt s t j
      · rfl
      · have := occ_le ho hj; rw [hn j (by omega)] at ho; exact absurd ho (by simp)
    · refine .inr ⟨i, by omega, e, hc, fun j h1 hj => ?_⟩
      cases ho : Lib.occAt s t j
      · rfl
      · have := occ_le ho hj; rw [hn j h1 (by omega)] at ho; exact absurd ho (by simp)
  · rw [if_neg h]
    refine .inl ⟨rfl, fun j hj => ?_⟩
    cases ho : Lib.occAt s t j
    · rfl
    · have := occ_le ho hj; omega
theorem last_between (a t b : List UInt8) : ∃ k : Nat, Lib.lastIndex (a ++ t ++ b) t = k ∧ a.length ≤ k ∧ k ≤ a.length + b.length := by
  have ho := occ_app a t b
  rcases last_spec (a ++ t ++ b) t with ⟨_, hn⟩ | ⟨i, hi, e, _, hn⟩
  · rw [hn a.length (by simp)] at ho; exact absurd ho (by simp)
  · refine ⟨i, e, ?_, by simp at hi; omega⟩
    by_cases hlt : i < a.length
    · rw [hn a.length hlt (by simp)] at ho; exact absurd ho (by simp)
    · omega
theorem last_app (a t : List UInt8) : Lib.lastIndex (a ++ t) t = a.length := by
  obtain ⟨k, e, h1, h2⟩ := last_between a t []
  simp at e h2; rw [e]; congr 1; omega
theorem none_index (s t : List UInt8) (h : ∀ j, j ≤ s.length → Lib.occAt s t j = false) : Lib.index s t = -1 := Lib.index_none h
theorem occ_drop (s t : List UInt8) (i j : Nat) : Lib.occAt (s.drop i) t j = Lib.occAt s t (i + j) := by
  unfold Lib.occAt; rw [List.drop_drop]
theorem last_none {s t : List UInt8} (h : ∀ j, j ≤ s.length → Lib.occAt s t j = false) : Lib.lastIndex s t = -1 := by
  rcases last_spec s t with ⟨e, _⟩ | ⟨i, hi, _, hc, _⟩
  · exact e
  · rw [h i (by omega)] at hc; exact absurd hc (by simp)
theorem suffix_occ (s p : List UInt8) (h : p.length ≤ s.length) : Lib.hasSuffix s p = Lib.occAt s p (s.length - p.length) := by
  rw [← Lib.hasSuffix_of_drop, Lib.occAt_iff_take s p _ (by omega)]
  simp only [h, decide_true, Bool.true_and]
  rw [List.take_of_length_le (by simp; omega)]
theorem suffix_last (s p : List UInt8) : Lib.hasSuffix s p = (decide (0 ≤ Lib.lastIndex s p) && decide (Lib.lastIndex s p = (s.length : Int) - p.length)) := by
  by_cases h : p.length ≤ s.length
  · rw [suffix_occ s p h]
    rcases last_spec s p with ⟨e, hn⟩ | ⟨i, hi, e, hc, hn⟩
    · rw [hn _ (by omega), e]; simp
    · rw [e]
      by_cases hx : i = s.length - p.length
      · subst hx; rw [hc]; simp; omega
      · rw [hn _ (by omega) (by omega)]; simp; omega
  · have h1 : Lib.hasSuffix s p = false := by
      cases hh : Lib.hasSuffix s p
      · rfl
      · obtain ⟨t, rfl⟩ := (hs_iff _ _).1 hh; simp at h
    rw [h1]; unfold Lib.lastIndex; rw [if_neg h]; simp

/-! bytes -/
theorem occ_one (s : ByteArray) (c : UInt8) (j : Nat) (h : j < s.size) : Lib.occAt s.data.toList [c] j = (s[j] == c) := by
  unfold Lib.occAt; rw [drop_get s j h]; simp [List.isPrefixOf]
  rw [Bool.beq_comm]
theorem occ_one_end (s : ByteArray) (c : UInt8) (j : Nat) (h : s.size ≤ j) : Lib.occAt s.data.toList [c] j = false := by
  unfold Lib.occAt; rw [drop_end s j h]; rfl
theorem bang (s : ByteArray) (j : Nat) (hj : j < s.size) : s.data[j]! = s[j] := by
  rw [getElem!_pos s.data j (by simpa using hj)]; rfl
theorem lastByte_last (s : ByteArray) (c : UInt8) : Lib.lastIndexByte s (c.toNat : Int) = Lib.lastIndex s.data.toList [c] := by
  rcases Lib.lastIndexByte_spec s (c.toNat : Int) with ⟨e, hn⟩ | ⟨i, hi, e, hc, hn⟩
  · rw [e]; symm; apply last_none; intro j hj
    rw [len_data] at hj
    by_cases hlt : j < s.size
    · rw [occ_one s c j hlt]
      have := hn j hlt; rw [bang s j hlt] at this
      rw [beq_eq_false_iff_ne]; intro e; apply this; rw [e]
    · exact occ_one_end s c j (by omega)
  · have hat : Lib.occAt s.data.toList [c] i = true := by
      rw [occ_one s c i hi, beq_iff_eq]; rw [bang s i hi] at hc; exact UInt8.toNat_inj.1 (by omega)
    rcases last_spec s.data.toList [c] with ⟨_, hk⟩ | ⟨k, hk, ek, hck, hnk⟩
    · rw [hk i (by rw [len_data]; omega)] at hat; exact absurd hat (by simp)
    · rw [len_data] at hk; simp at hk
      rw [e, ek]; congr 1
      by_cases h1 : i < k
      · have := hn k h1 (by omega); rw [bang s k (by omega)] at this
        rw [occ_one s c k (by omega), beq_iff_eq] at hck; rw [hck] at this; exact absurd rfl this
      · by_cases h2 : k < i
        · rw [hnk i h2 (by rw [len_data]; omega)] at hat; exact absurd hat (by simp)
        · omega
theorem firstByte_index (l : List UInt8) (c : UInt8) : Lib.indexByte l c = Lib.index l [c] := by
  induction l with
  | nil => rfl
  | cons b l ih => unfold Lib.indexByte Lib.index; rw [ih]; simp [List.isPrefixOf, Bool.beq_comm]
end Go.Proofs.Ytapdpkojjkbccaa
