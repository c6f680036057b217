/-
  Plain: what strings.EqualFold tells of two texts: their code points are alike, one by one. No condition.
-/
import Derived.Test.YtlgibcphfmjddaaDoorFoldF
import Derived.Test.YtlgibcphfmjddaaDoorMapP
import Derived.Test.YtlgibcphfmjddaaDoorMapL
namespace Go.Proofs.YtlgibcphfmjddaaDoor
open Go.Lib
set_option linter.unusedVariables false

/-- the code points of a text -/
def rn (l : List UInt8) : List Nat := (chs l).map (·.1)
noncomputable def eqL : List Nat → List Nat → Bool
  | [], [] => true
  | a :: l, b :: m => eqR a b && eqL l m
  | _, _ => false
noncomputable def eqF (l m : List UInt8) : Bool := eqL (rn l) (rn m)
theorem rn_nil : rn [] = [] := rfl
theorem rn_cons {l : List UInt8} (h : l ≠ []) : rn l = (Lib.decodeL l).1 :: rn (l.drop (Lib.decodeL l).2) := by
  unfold rn; rw [chs_cons l h, List.map_cons]
theorem rn_eq_nil {l : List UInt8} : rn l = [] ↔ l = [] := by
  unfold rn; rw [List.map_eq_nil_iff]; exact chs_eq_nil
theorem rn_at (s : ByteArray) (k : Nat) (h : k < s.size) : rn (s.data.toList.drop k) = (Utf8.decode s k).1 :: rn (s.data.toList.drop (k + (Utf8.decode s k).2)) := by
  rw [rn_cons (ne_drop h), List.drop_drop, ← decode_drop]
theorem dec_asc (s : ByteArray) (k : Nat) (hk : k < s.size) (h : s[k].toNat < 128) : Utf8.decode s k = (s[k].toNat, 1) := by
  rw [Lib.decode_at, gb s k hk]; unfold Lib.decodeN; rw [if_pos h]
theorem rn_ascii (s : ByteArray) (k : Nat) (h : k < s.size) (ha : s[k].toNat < 128) : rn (s.data.toList.drop k) = s[k].toNat :: rn (s.data.toList.drop (k + 1)) := by
  rw [rn_at s k h, dec_asc s k h ha]
theorem eqF_nil_cons {m : List UInt8} (h : m ≠ []) : eqF [] m = false := by
  unfold eqF
  rw [rn_nil, rn_cons h]; rfl
theorem eqF_cons_nil {l : List UInt8} (h : l ≠ []) : eqF l [] = false := by
  unfold eqF
  rw [rn_nil, rn_cons h]; rfl
theorem eqL_refl : ∀ l, eqL l l = true
  | [] => rfl
  | a :: l => by unfold eqL; rw [eqR_refl, eqL_refl l]; rfl
theorem eqL_symm : ∀ l m, eqL l m = eqL m l
  | [], [] => rfl
  | [], b :: m => rfl
  | a :: l, [] => rfl
  | a :: l, b :: m => by unfold eqL; rw [eqR_symm, eqL_symm l m]
theorem eqL_trans : ∀ l m n, eqL l m = true → eqL m n = true → eqL l n = true
  | [], [], n, _, h => h
  | [], b :: m, n, h, _ => by cases h
  | a :: l, [], n, h, _ => by cases h
  | a :: l, b :: m, [], _, h => by cases h
  | a :: l, b :: m, c :: n, h, k => by
    unfold eqL at h k ⊢
    rw [Bool.and_eq_true] at h k ⊢
    exact ⟨eqR_iff.2 ((eqR_iff.1 h.1).trans (eqR_iff.1 k.1)), eqL_trans l m n h.2 k.2⟩
theorem eqL_len : ∀ l m, eqL l m = true → l.length = m.length
  | [], [], _ => rfl
  | [], b :: m, h => by cases h
  | a :: l, [], h => by cases h
  | a :: l, b :: m, h => by
    unfold eqL at h
    rw [Bool.and_eq_true] at h
    simp [eqL_len l m h.2]
theorem eqL_cons (a b : Nat) (l m : List Nat) : eqL (a :: l) (b :: m) = (eqR a b && eqL l m) := rfl
theorem eqL_append : ∀ l m l' m', l.length = m.length → eqL (l ++ l') (m ++ m') = (eqL l m && eqL l' m')
  | [], [], l', m', _ => by simp [eqL]
  | [], b :: m, l', m', h => by simp at h
  | a :: l, [], l', m', h => by simp at h
  | a :: l, b :: m, l', m', h => by
    rw [List.cons_append, List.cons_append]
    rw [eqL_cons, eqL_cons, eqL_append l m l' m' (by simpa using h), Bool.and_assoc]
/-- where the library's loop over a circle is: j turns on from a, and so far neither back at a nor at b or beyond -/
structure Turn (a b j r : Nat) : Prop where
  r : it j a = r
  pos : 0 < j
  le : j ≤ 4
  all : ∀ i, 0 < i → i < j → it i a ≠ a ∧ it i a < b
theorem it_succ (j a : Nat) : it (j + 1) a = nx (it j a) := it_add j 1 a
theorem Turn.first (a b : Nat) : Turn a b 1 (nx a) := ⟨rfl, by omega, by omega, fun i h1 h2 => by omega⟩
theorem Turn.next {a b j r : Nat} (h : Turn a b j r) (h1 : r ≠ a) (h2 : r < b) : Turn a b (j + 1) (nx r) ∧ j < 4 := by
  have hall : ∀ i, 0 < i → i < j + 1 → it i a ≠ a ∧ it i a < b := fun i h0 hi => by
    by_cases e : i = j
    · subst e; rw [h.r]; exact ⟨h1, h2⟩
    · exact h.all i h0 (by omega)
  have h4 : j < 4 := by
    obtain ⟨n, hn0, hn4, hn⟩ := it_back a
    rcases Nat.lt_or_ge j 4 with h' | h'
    · exact h'
    · exact absurd hn (hall n hn0 (by omega)).1
  exact ⟨⟨by rw [it_succ, h.r], by omega, by omega, hall⟩, h4⟩
theorem Turn.hit {a b j r : Nat} (h : Turn a b j r) (e : r = b) : eqR a b = true := eqR_iff.2 ⟨j, by rw [h.r, e]⟩
theorem Turn.back {a b j r : Nat} (h : Turn a b j r) (hab : a < b) (e : r = a) : eqR a b = false := by
  rw [Bool.eq_false_iff]
  intro hc
  obtain ⟨n, hn⟩ := eqR_iff.1 hc
  have hj : it j a = a := by rw [h.r, e]
  have hm : it n a = it (n % j) a := by
    have := it_add (j * (n / j)) (n % j) a
    rw [Nat.div_add_mod, it_mul hj] at this
    exact this
  have hlt := Nat.mod_lt n h.pos
  by_cases h0 : n % j = 0
  · rw [h0] at hm
    have : it n a = a := hm
    omega
  · have := (h.all (n % j) (by omega) hlt).2
    omega
theorem Turn.past {a b j r : Nat} (h : Turn a b j r) (hab : a < b) (hr : b < r) : eqR a b = false := by
  rw [Bool.eq_false_iff]
  intro hc
  have hal := eqR_iff.1 hc
  obtain ⟨i, rfl⟩ : ∃ i, j = i + 1 := ⟨j - 1, by have := h.pos; omega⟩
  have hx : it i a < b := by
    by_cases e : i = 0
    · subst e; exact hab
    · exact (h.all i (by omega) (by omega)).2
  have h1 : Alike (it i a) b := (Alike.symm ⟨i, rfl⟩).trans hal
  have := step_past h1 hx
  have e := h.r
  rw [it_succ] at e
  omega
theorem it_le : ∀ (j a : Nat), a ≤ 1114111 → it j a ≤ 1114111
  | 0, a, h => h
  | j + 1, a, h => it_le j (nx a) ((turns a).le h)
end Go.Proofs.YtlgibcphfmjddaaDoor
