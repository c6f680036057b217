/-
  The contract of the library's FieldsFunc where it is handed a method value of a test, and of the thin package's FieldsFunc. Conditions: the text's length is at most 2^32; the test's runes lie in memory.
-/
import Derived.Test.YtehjbmijbgonkaaRuns
import Derived.Laws.DeepNot64
import Derived.Lib.FieldsP
import Derived.Lib.OthersKept
import Derived.Laws.MakeOwn
namespace Go.Proofs.Ytehjbmijbgonkaa
open Go.RowKit
set_option linter.unusedVariables false

/-- spans as cells, two a span -/
def spCells (l : List (Nat × Nat)) : List Value := l.flatMap fun x => [Value.int .i64 (x.1 : Int), Value.int .i64 (x.2 : Int)]
theorem spCells_snoc (l : List (Nat × Nat)) (a b : Nat) : spCells (l ++ [(a, b)]) = spCells l ++ [Value.int .i64 (a : Int), Value.int .i64 (b : Int)] := by simp [spCells]
theorem spCells_len (l : List (Nat × Nat)) : (spCells l).length = l.length * 2 := by
  induction l with
  | nil => rfl
  | cons x l ih => simp [spCells, List.flatMap_cons] at ih ⊢; omega
theorem spCells_at : ∀ (l : List (Nat × Nat)) (k : Nat) (hk : k < l.length), (spCells l)[k * 2]? = some (.int .i64 (l[k].1 : Int)) ∧ (spCells l)[k * 2 + 1]? = some (.int .i64 (l[k].2 : Int))
  | [], k, hk => by simp at hk
  | x :: l, 0, hk => by simp [spCells]
  | x :: l, k + 1, hk => by
    have e : spCells (x :: l) = [.int .i64 (x.1 : Int), .int .i64 (x.2 : Int)] ++ spCells l := by simp [spCells]
    have ih := spCells_at l k (by simpa using hk)
    rw [e, List.getElem?_append_right (by simp; omega), List.getElem?_append_right (by simp; omega)]
    simpa [show (k + 1) * 2 - 2 = k * 2 by omega, show (k + 1) * 2 + 1 - 2 = k * 2 + 1 by omega] using ih
/-- where the library's loop stands: place pos of the text -/
def FfRel (p : Nat → Bool) (s : ByteArray) (pos : Nat) (st : Option Nat) (done : List (Nat × Nat)) : Prop :=
  spans p s.size none (pcs 0 s.data.toList) = done ++ spans p s.size st (pcs pos (s.data.toList.drop pos)) ∧ done.length ≤ pos ∧ (∀ a, st = some a → a ≤ pos) ∧ ∀ x ∈ done, x.1 ≤ x.2 ∧ x.2 ≤ s.size
theorem ff_start (p : Nat → Bool) (s : ByteArray) : FfRel p s 0 none [] := ⟨by rw [List.drop_zero]; rfl, Nat.le_refl _, (fun a h => by cases h), fun x hx => by cases hx⟩
section
variable {p : Nat → Bool} {s : ByteArray} {pos : Nat} {done : List (Nat × Nat)}
theorem ne_drop (hp : pos < s.size) : s.data.toList.drop pos ≠ [] := by
  intro h0; have := congrArg List.length h0; rw [List.length_drop, len_data] at this; simp at this; omega
theorem ff_out_hit (h : FfRel p s pos none done) (hk : pos < s.size) (hp : p (Utf8.decode s pos).1 = true) : FfRel p s (pos + (Utf8.decode s pos).2) none done := by
  obtain ⟨h1, h2, h3, h4⟩ := h
  rw [pcs_cons _ _ (ne_drop hk), ← decode_drop] at h1
  simp only [spans, hp, if_true, List.drop_drop] at h1
  exact ⟨h1, by omega, (fun a h => by cases h), h4⟩
theorem ff_out_miss (h : FfRel p s pos none done) (hk : pos < s.size) (hp : p (Utf8.decode s pos).1 = false) : FfRel p s (pos + (Utf8.decode s pos).2) (some pos) done := by
  obtain ⟨h1, h2, h3, h4⟩ := h
  rw [pcs_cons _ _ (ne_drop hk), ← decode_drop] at h1
  simp only [spans, hp, Bool.false_eq_true, if_false, List.drop_drop] at h1
  exact ⟨h1, by omega, (fun a h => by cases h; omega), h4⟩
theorem ff_in_hit {a : Nat} (h : FfRel p s pos (some a) done) (hk : pos < s.size) (hp : p (Utf8.decode s pos).1 = true) : FfRel p s (pos + (Utf8.decode s pos).2) none (done ++ [(a, pos)]) := by
  obtain ⟨h1, h2, h3, h4⟩ := h
  have hw := Lib.width_pos s pos
  rw [pcs_cons _ _ (ne_drop hk), ← decode_drop] at h1
  simp only [spans, hp, if_true, List.drop_drop] at h1
  refine ⟨by rw [h1]; simp, by simp; omega, (fun a h => by cases h), fun x hx => ?_⟩
  rcases List.mem_append.1 hx with hx | hx
  · exact h4 x hx
  · simp at hx; subst hx; have := h3 a rfl; exact ⟨by simpa using this, by simp; omega⟩
theorem ff_in_miss {a : Nat} (h : FfRel p s pos (some a) done) (hk : pos < s.size) (hp : p (Utf8.decode s pos).1 = false) : FfRel p s (pos + (Utf8.decode s pos).2) (some a) done := by
  obtain ⟨h1, h2, h3, h4⟩ := h
  rw [pcs_cons _ _ (ne_drop hk), ← decode_drop] at h1
  simp only [spans, hp, Bool.false_eq_true, if_false, List.drop_drop] at h1
  exact ⟨h1, by omega, (fun b h => by cases h; have := h3 a rfl; omega), h4⟩
theorem ff_end_none (h : FfRel p s s.size none done) : spans p s.size none (pcs 0 s.data.toList) = done ∧ (∀ x ∈ done, x.1 ≤ x.2 ∧ x.2 ≤ s.size) ∧ done.length ≤ s.size + 1 := by
  have h1 := h.1; rw [drop_end s _ (Nat.le_refl _), pcs_nil] at h1
  exact ⟨by simpa [spans] using h1, h.2.2.2, by have := h.2.1; omega⟩
theorem ff_end_some {a : Nat} (h : FfRel p s s.size (some a) done) : spans p s.size none (pcs 0 s.data.toList) = done ++ [(a, s.size)] ∧ (∀ x ∈ done ++ [(a, s.size)], x.1 ≤ x.2 ∧ x.2 ≤ s.size) ∧ (done ++ [(a, s.size)]).length ≤ s.size + 1 := by
  have h1 := h.1; rw [drop_end s _ (Nat.le_refl _), pcs_nil] at h1
  refine ⟨by simpa [spans] using h1, fun x hx => ?_, by have := h.2.1; simp; omega⟩
  rcases List.mem_append.1 hx with hx | hx
  · exact h.2.2.2 x hx
  · simp at hx; subst hx; have := h.2.2.1 a rfl; exact ⟨by simpa using this, by simp⟩
end
/-- how the library keeps where a part has begun -/
def StIs (st : Option Nat) (z : Int) : Prop := -9223372036854775808 ≤ z ∧ (st = none → z < 0) ∧ ∀ a, st = some a → z = (a : Int)
theorem Try.infoSpan : (Try.prog.info? 60).map (fun i => (i.zero, i.size, i.bytes)) = some (some (.agg #[.int .i64 0, .int .i64 0]), 2, 16) := by kernel_rfl
end Go.Proofs.Ytehjbmijbgonkaa
