/-
  Plain laws: where a loop over a text stands that tells the parts between code points that satisfy a test. No condition.
-/
import Derived.Test.YtlgibcphfmjddaaDoorPl
namespace Go.Proofs.YtlgibcphfmjddaaDoor
set_option linter.unusedVariables false

/-- where the library's loop stands: place pos of the text -/
def FfRel (p : Nat → Bool) (s : ByteArray) (pos : Nat) (st : Option Nat) (done : List (Nat × Nat)) : Prop :=
  spans p s.size none (pcs 0 s.data.toList) = done ++ spans p s.size st (pcs pos (s.data.toList.drop pos)) ∧ done.length ≤ pos ∧ (∀ a, st = some a → a ≤ pos) ∧ ∀ x ∈ done, x.1 ≤ x.2 ∧ x.2 ≤ s.size
theorem ff_start (p : Nat → Bool) (s : ByteArray) : FfRel p s 0 none [] := ⟨by rw [List.drop_zero]; rfl, Nat.le_refl _, (fun a h => by cases h), fun x hx => by cases hx⟩
section
variable {p : Nat → Bool} {s : ByteArray} {pos : Nat} {done : List (Nat × Nat)}
theorem ne_drop (hp : pos < s.size) : s.data.toList.drop pos ≠ [] := by
  intro h0; have := congrArg List.length h0; rw [List.length_drop, len_data] at this; simp at this; omega
theorem ff_out_hit (h : FfRel p s pos none done) (hk : pos < s.size) (hp : p (Utf8.decode s pos).1 = true) : FfRel p s (pos + (Utf8.decode s pos).2) none done := by
  obtain ⟨h1, h2, h3, h4⟩ := h
  rw [pcs_cons _ _ (ne_drop hk), ← decode_drop] at h1
  simp only [spans, hp, if_true, List.drop_drop] at h1
  exact ⟨h1, by omega, (fun a h => by cases h), h4⟩
theorem ff_out_miss (h : FfRel p s pos none done) (hk : pos < s.size) (hp : p (Utf8.decode s pos).1 = false) : FfRel p s (pos + (Utf8.decode s pos).2) (some pos) done := by
  obtain ⟨h1, h2, h3, h4⟩ := h
  rw [pcs_cons _ _ (ne_drop hk), ← decode_drop] at h1
  simp only [spans, hp, Bool.false_eq_true, if_false, List.drop_drop] at h1
  exact ⟨h1, by omega, (fun a h => by cases h; omega), h4⟩
theorem ff_in_hit {a : Nat} (h : FfRel p s pos (some a) done) (hk : pos < s.size) (hp : p (Utf8.decode s pos).1 = true) : FfRel p s (pos + (Utf8.decode s pos).2) none (done ++ [(a, pos)]) := by
  obtain ⟨h1, h2, h3, h4⟩ := h
  have hw := Lib.width_pos s pos
  rw [pcs_cons _ _ (ne_drop hk), ← decode_drop] at h1
  simp only [spans, hp, if_true, List.drop_drop] at h1
  refine ⟨by rw [h1]; simp, by simp; omega, (fun a h => by cases h), fun x hx => ?_⟩
  rcases List.mem_append.1 hx with hx | hx
  · exact h4 x hx
  · simp at hx; subst hx; have := h3 a rfl; exact ⟨by simpa using this, by simp; omega⟩
theorem ff_in_miss {a : Nat} (h : FfRel p s pos (some a) done) (hk : pos < s.size) (hp : p (Utf8.decode s pos).1 = false) : FfRel p s (pos + (Utf8.decode s pos).2) (some a) done := by
  obtain ⟨h1, h2, h3, h4⟩ := h
  rw [pcs_cons _ _ (ne_drop hk), ← decode_drop] at h1
  simp only [spans, hp, Bool.false_eq_true, if_false, List.drop_drop] at h1
  exact ⟨h1, by omega, (fun b h => by cases h; have := h3 a rfl; omega), h4⟩
theorem ff_end_none (h : FfRel p s s.size none done) : spans p s.size none (pcs 0 s.data.toList) = done ∧ (∀ x ∈ done, x.1 ≤ x.2 ∧ x.2 ≤ s.size) ∧ done.length ≤ s.size + 1 := by
  have h1 := h.1; rw [drop_end s _ (Nat.le_refl _), pcs_nil] at h1
  exact ⟨by simpa [spans] using h1, h.2.2.2, by have := h.2.1; omega⟩
theorem ff_end_some {a : Nat} (h : FfRel p s s.size (some a) done) : spans p s.size none (pcs 0 s.data.toList) = done ++ [(a, s.size)] ∧ (∀ x ∈ done ++ [(a, s.size)], x.1 ≤ x.2 ∧ x.2 ≤ s.size) ∧ (done ++ [(a, s.size)]).length ≤ s.size + 1 := by
  have h1 := h.1; rw [drop_end s _ (Nat.le_refl _), pcs_nil] at h1
  refine ⟨by simpa [spans] using h1, fun x hx => ?_, by have := h.2.1; simp; omega⟩
  rcases List.mem_append.1 hx with hx | hx
  · exact h.2.2.2 x hx
  · simp at hx; subst hx; have := h.2.2.1 a rfl; exact ⟨by simpa using this, by simp⟩
end
theorem ff_told {p : Nat → Bool} {s : ByteArray} {pos a : Nat} {done : List (Nat × Nat)} (h : FfRel p s pos (some a) done) (hk : pos < s.size) (hp : p (Utf8.decode s pos).1 = true) : ∃ r, fieldsP p s = done.map (cut s) ++ [s.extract a pos] ++ r := by
  obtain ⟨h1, _⟩ := ff_in_hit h hk hp
  exact ⟨_, by unfold fieldsP; rw [h1]; simp [cut]; rfl⟩
theorem dec_fit (s : ByteArray) (k : Nat) (hk : k < s.size) : k + (Utf8.decode s k).2 ≤ s.size ∧ 1 ≤ (Utf8.decode s k).2 := by
  have hne := ne_drop (s := s) hk
  rw [decode_drop]
  have := dL_le _ hne
  rw [List.length_drop, len_data] at this
  have hp := dL_pos (s.data.toList.drop k)
  omega
theorem decodeGo_at (s : ByteArray) (pos : Nat) (h : pos < s.size) : Lib.decodeGoB (s.extract pos s.size) = Utf8.decode s pos := by
  have hx : (s.extract pos s.size).data.toList = s.data.toList.drop pos := by
    rw [Lib.extract_data, List.take_of_length_le (by rw [List.length_drop, len_data]; omega)]
  have hsz : (s.extract pos s.size).size ≠ 0 := by
    rw [← len_data, hx, List.length_drop, len_data]; omega
  unfold Lib.decodeGoB
  rw [if_neg hsz, decode_drop, decode_drop, List.drop_zero, hx]
end Go.Proofs.YtlgibcphfmjddaaDoor
