/-
  Fields with blanks between, glued: how long, and what fields they have. No condition.
-/
import Derived.Test.YteiginpjahmppaaDoorWords
import Derived.Test.YteiginpjahmppaaDoorSpace
import Derived.Test.YteiginpjahmppaaDoorJoin
namespace Go.Proofs.YteiginpjahmppaaDoor
set_option linter.unusedVariables false

theorem runs_sum (p : Nat → Bool) : ∀ (cs cur : List Ch), ((runsC p cur cs).map (fun r => (cat r).length)).sum ≤ (cat cur).length + (cat cs).length
  | [], cur => by
    rw [runsC]
    split
    · simp
    · simp [cat_nil]
  | c :: cs, cur => by
    rw [runsC, cat_cons, List.length_append]
    split
    · have h := runs_sum p cs []
      rw [cat_nil] at h
      split
      · simp at h ⊢; omega
      · simp at h ⊢; omega
    · have h := runs_sum p cs (cur ++ [c])
      rw [cat_append, List.length_append] at h
      have : (cat [c]).length = c.2.length := by simp [cat]
      omega
theorem fields_sum (p : Nat → Bool) (s : ByteArray) : Lib.lens ((fieldsP p s).map (·.data.toList)) ≤ s.size := by
  have h := runs_sum p (chs s.data.toList) []
  rw [cat_nil, cat_chs, len_data] at h
  have h2 : Lib.lens ((fieldsP p s).map (·.data.toList)) = ((runsC p [] (chs s.data.toList)).map (fun r => (cat r).length)).sum := by
    rw [fields_ch]
    unfold Lib.lens
    rw [List.map_map]
    rfl
  simp at h
  omega
theorem join_size (l : List ByteArray) (sep : ByteArray) : (joinB l sep).size ≤ Lib.lens (l.map (·.data.toList)) + sep.size * l.length := by
  have hs : (joinB l sep).size = (Lib.join (l.map (·.data.toList)) sep.data.toList).length := by show (List.toArray _).size = _; simp
  rw [hs]
  cases l with
  | nil => simp [Lib.join_nil]
  | cons x r =>
    rw [List.map_cons, Lib.join_length, len_data, List.length_map, List.length_cons, Nat.mul_add]
    omega
theorem blank_join (s sep : ByteArray) (b : UInt8) (sr : List UInt8) (hsep : sep.data.toList = b :: sr) (hb : b.toNat < 128) (hp : ∀ c ∈ chs sep.data.toList, Lib.isSpaceR c.1 = true) (happ : ∀ l, chs (sep.data.toList ++ l) = chs sep.data.toList ++ chs l) :
    fieldsP Lib.isSpaceR (joinB (fieldsP Lib.isSpaceR s) sep) = fieldsP Lib.isSpaceR s :=
  join_fields sep.data.toList b sr hsep hb hp happ _ (fun f hf => field_word _ s f hf)
theorem blank_join1 (s : ByteArray) : fieldsP Lib.isSpaceR (joinB (fieldsP Lib.isSpaceR s) ⟨#[32]⟩) = fieldsP Lib.isSpaceR s := by
  have e : chs [32] = [(32, [32])] := by rw [chs_ascii 32 [] (by decide)]; rfl
  refine blank_join s ⟨#[32]⟩ 32 [] rfl (by decide) ?_ ?_
  · show ∀ c ∈ chs [32], _
    rw [e]; intro c hc; simp at hc; subst hc; decide
  · intro l
    show chs (32 :: l) = chs [32] ++ chs l
    rw [e, chs_ascii 32 l (by decide)]; rfl
theorem blank_join2 (s : ByteArray) : fieldsP Lib.isSpaceR (joinB (fieldsP Lib.isSpaceR s) ⟨#[32, 9]⟩) = fieldsP Lib.isSpaceR s := by
  have e : chs [32, 9] = [(32, [32]), (9, [9])] := by rw [chs_ascii 32 [9] (by decide), chs_ascii 9 [] (by decide)]; rfl
  refine blank_join s ⟨#[32, 9]⟩ 32 [9] rfl (by decide) ?_ ?_
  · show ∀ c ∈ chs [32, 9], _
    rw [e]; intro c hc; simp at hc; rcases hc with rfl | rfl <;> decide
  · intro l
    show chs (32 :: 9 :: l) = chs [32, 9] ++ chs l
    rw [e, chs_ascii 32 (9 :: l) (by decide), chs_ascii 9 l (by decide)]; rfl
theorem has_part (s : ByteArray) (a b : Nat) (h1 : a ≤ b) (h2 : b ≤ s.size) : (s.extract a b).size ≤ s.size := by
  rw [Lib.size_eq, Lib.extract_data, List.length_take, List.length_drop, ← Lib.size_eq]; omega
end Go.Proofs.YteiginpjahmppaaDoor
