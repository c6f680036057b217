/-
  Plain laws of the order of texts: what both begin with is of no moment; a beginning stands ahead; it is an order. No condition.
-/
import Derived.Test.YtddlenodpjhmgaaBase
import Derived.Lib.Bytealg
namespace Go.Proofs.Ytddlenodpjhmgaa
open Go.RowKit
set_option linter.unusedVariables false

theorem data_append (a b : ByteArray) : (a ++ b).data.toList = a.data.toList ++ b.data.toList := by simp
theorem cmp_refl (a : List UInt8) : Lib.compareBytes a a = 0 := by
  induction a with
  | nil => rfl
  | cons x a ih => simp [Lib.compareBytes, ih]
theorem cmp_pre (p a b : List UInt8) : Lib.compareBytes (p ++ a) (p ++ b) = Lib.compareBytes a b := by
  induction p with
  | nil => rfl
  | cons x p ih => simp [Lib.compareBytes, ih]
theorem cmp_ahead (a b : List UInt8) (h : b ≠ []) : Lib.compareBytes a (a ++ b) = -1 := by
  induction a with
  | nil => cases b with
    | nil => exact absurd rfl h
    | cons x b => rfl
  | cons x a ih => simp [Lib.compareBytes, ih]
theorem cmp_range : ∀ a b : List UInt8, -1 ≤ Lib.compareBytes a b ∧ Lib.compareBytes a b ≤ 1
  | [], [] => by simp [Lib.compareBytes]
  | [], _ :: _ => by simp [Lib.compareBytes]
  | _ :: _, [] => by simp [Lib.compareBytes]
  | x :: a, y :: b => by
    simp only [Lib.compareBytes]; split
    · omega
    · split
      · omega
      · exact cmp_range a b
theorem cmp_swap : ∀ a b : List UInt8, Lib.compareBytes b a = - Lib.compareBytes a b
  | [], [] => by simp [Lib.compareBytes]
  | [], _ :: _ => by simp [Lib.compareBytes]
  | _ :: _, [] => by simp [Lib.compareBytes]
  | x :: a, y :: b => by
    simp only [Lib.compareBytes]
    by_cases h : x < y
    · have h' : ¬ y < x := by rw [UInt8.lt_iff_toNat_lt] at *; omega
      simp [h, h']
    · by_cases h' : y < x
      · simp [h, h']
      · simp [h, h', cmp_swap a b]
theorem cmp_zero : ∀ a b : List UInt8, Lib.compareBytes a b = 0 ↔ a = b
  | [], [] => by simp [Lib.compareBytes]
  | [], _ :: _ => by simp [Lib.compareBytes]
  | _ :: _, [] => by simp [Lib.compareBytes]
  | x :: a, y :: b => by
    simp only [Lib.compareBytes]
    by_cases h : x < y
    · have h' : x ≠ y := by intro e; subst e; rw [UInt8.lt_iff_toNat_lt] at *; omega
      simp [h, h']
    · by_cases h' : y < x
      · have h2 : x ≠ y := by intro e; subst e; rw [UInt8.lt_iff_toNat_lt] at *; omega
        simp [h, h', h2]
      · have h2 : x = y := by rw [UInt8.lt_iff_toNat_lt] at *; exact UInt8.toNat_inj.1 (by omega)
        simp [h2, cmp_zero a b]
theorem cmp_on : ∀ a b c : List UInt8, Lib.compareBytes a b ≤ 0 → Lib.compareBytes b c ≤ 0 → Lib.compareBytes a c ≤ 0 ∧ (Lib.compareBytes a c = 0 ↔ Lib.compareBytes a b = 0 ∧ Lib.compareBytes b c = 0)
  | [], [], c => by intro _ h; exact ⟨h, by simp [Lib.compareBytes]⟩
  | [], y :: b, [] => by intro _ h; simp [Lib.compareBytes] at h
  | [], y :: b, z :: c => by intro _ _; simp [Lib.compareBytes]
  | x :: a, [], c => by intro h; simp [Lib.compareBytes] at h
  | x :: a, y :: b, [] => by intro _ h; simp [Lib.compareBytes] at h
  | x :: a, y :: b, z :: c => by
    intro h1 h2
    simp only [Lib.compareBytes] at h1 h2 ⊢
    simp only [UInt8.lt_iff_toNat_lt] at *
    by_cases e1 : x.toNat < y.toNat
    · by_cases e2 : y.toNat < z.toNat
      · have : x.toNat < z.toNat := by omega
        simp [e1, e2, this]
      · by_cases e3 : z.toNat < y.toNat
        · simp [e2, e3] at h2
        · have : x.toNat < z.toNat := by omega
          simp [e1, this]
    · by_cases e1' : y.toNat < x.toNat
      · simp [e1, e1'] at h1
      · by_cases e2 : y.toNat < z.toNat
        · have : x.toNat < z.toNat := by omega
          simp [e2, this]
        · by_cases e3 : z.toNat < y.toNat
          · simp [e2, e3] at h2
          · have f1 : ¬ x.toNat < z.toNat := by omega
            have f2 : ¬ z.toNat < x.toNat := by omega
            simp only [e1, e1', if_false] at h1
            simp only [e2, e3, if_false] at h2
            simp only [e1, e1', e2, e3, f1, f2, if_false]
            exact cmp_on a b c h1 h2
end Go.Proofs.Ytddlenodpjhmgaa
