/-
  Contracts of the reference's Fold, folded, alike, Alike; what Fold tells is what folding does. Conditions: the text is of at most 2^40 bytes.
-/
import Derived.Test.YtlgibcphfmjddaaDoorEqP
import Derived.Test.YtlgibcphfmjddaaDoorMapC
import Derived.Test.YtlgibcphfmjddaaDoorPieces
namespace Go.Proofs.YtlgibcphfmjddaaDoor
open Go.Lib Go.RowKit
set_option linter.unusedVariables false

/-- what the reference's Fold tells -/
def foldN (r : Nat) : Option Nat :=
  if (65 ≤ r ∧ r ≤ 90) ∨ (192 ≤ r ∧ r ≤ 222 ∧ r ≠ 215) then some (r + 32)
  else if r = 181 then some 956
  else if r ≤ 255 then some r
  else if r = 930 then none
  else if 913 ≤ r ∧ r ≤ 937 then some (r + 32)
  else if r = 962 then some 963
  else if 945 ≤ r ∧ r ≤ 969 then some r
  else if 1024 ≤ r ∧ r ≤ 1039 then some (r + 80)
  else if 1040 ≤ r ∧ r ≤ 1071 then some (r + 32)
  else if 1072 ≤ r ∧ r ≤ 1119 then some r
  else none
theorem foldN_lt {r x : Nat} (h : foldN r = some x) : r < 1120 := by
  rcases Nat.lt_or_ge r 1120 with h' | h'
  · exact h'
  · unfold foldN at h
    repeat rw [if_neg (by omega)] at h
    cases h
noncomputable def foldOk (a : Nat) : Bool :=
  match foldN a with
  | none => true
  | some x => and (eqR a x) ([nx a, nx (nx a), nx (nx (nx a))].all (fun b => match foldN b with | none => true | some y => Nat.beq y x))
theorem k_fold : (List.range 1120).all foldOk = true := by kernel_rfl
theorem fold_alike {a b x y : Nat} (ha : foldN a = some x) (hb : foldN b = some y) : eqR a b = decide (x = y) := by
  have ka := List.all_eq_true.1 k_fold a (List.mem_range.2 (foldN_lt ha))
  have kb := List.all_eq_true.1 k_fold b (List.mem_range.2 (foldN_lt hb))
  unfold foldOk at ka kb
  rw [ha] at ka
  rw [hb] at kb
  simp only [Bool.and_eq_true, List.all_cons, List.all_nil] at ka kb
  rw [Bool.eq_iff_iff, decide_eq_true_eq]
  constructor
  · intro h
    rcases (eqR_iff.1 h).few with e | e | e | e
    · rw [e, ha] at hb; exact Option.some.inj hb
    · have := ka.2.1; rw [← e, hb] at this; exact (Nat.eq_of_beq_eq_true this).symm
    · have := ka.2.2.1; rw [← e, hb] at this; exact (Nat.eq_of_beq_eq_true this).symm
    · have := ka.2.2.2.1; rw [← e, hb] at this; exact (Nat.eq_of_beq_eq_true this).symm
  · intro e
    subst e
    exact eqR_iff.2 ((eqR_iff.1 ka.1).trans (eqR_iff.1 kb.1).symm)
def foldAll : List Nat → Option (List Nat)
  | [] => some []
  | r :: l => match foldN r, foldAll l with
    | some x, some xs => some (x :: xs)
    | _, _ => none
theorem foldAll_cons {r x : Nat} {l xs : List Nat} (h1 : foldN r = some x) (h2 : foldAll l = some xs) : foldAll (r :: l) = some (x :: xs) := by unfold foldAll; rw [h1, h2]
theorem foldAll_some {r : Nat} {l zs : List Nat} (h : foldAll (r :: l) = some zs) : ∃ x xs, foldN r = some x ∧ foldAll l = some xs ∧ zs = x :: xs := by
  unfold foldAll at h
  split at h
  · rename_i x xs h1 h2; cases h; exact ⟨x, xs, h1, h2, rfl⟩
  · cases h
theorem foldAll_eq : ∀ (l m ls ms : List Nat), foldAll l = some ls → foldAll m = some ms → eqL l m = decide (ls = ms)
  | [], [], ls, ms, h, k => by cases h; cases k; rfl
  | [], b :: m, ls, ms, h, k => by
    obtain ⟨y, ys, _, _, rfl⟩ := foldAll_some k
    cases h; rfl
  | a :: l, [], ls, ms, h, k => by
    obtain ⟨x, xs, _, _, rfl⟩ := foldAll_some h
    cases k; rfl
  | a :: l, b :: m, ls, ms, h, k => by
    obtain ⟨x, xs, h1, h2, rfl⟩ := foldAll_some h
    obtain ⟨y, ys, k1, k2, rfl⟩ := foldAll_some k
    show (eqR a b && eqL l m) = _
    rw [fold_alike h1 k1, foldAll_eq l m xs ys h2 k2, Bool.eq_iff_iff]
    simp
theorem foldAll_snoc : ∀ (l : List Nat) (r : Nat) (xs : List Nat), foldAll l = some xs → foldAll (l ++ [r]) = (foldN r).map (fun x => xs ++ [x])
  | [], r, xs, h => by
    cases h
    show (match foldN r, foldAll [] with | some x, some xs => some (x :: xs) | _, _ => none) = _
    cases foldN r <;> rfl
  | a :: l, r, zs, h => by
    obtain ⟨x, xs, h1, h2, rfl⟩ := foldAll_some h
    have ih := foldAll_snoc l r xs h2
    rw [List.cons_append]
    unfold foldAll
    rw [h1, ih]
    cases foldN r <;> rfl
theorem foldAll_none : ∀ (l m : List Nat), foldAll l = none → foldAll (l ++ m) = none
  | [], m, h => by cases h
  | a :: l, m, h => by
    rw [List.cons_append]
    unfold foldAll at h ⊢
    cases h1 : foldN a with
    | none => rfl
    | some x =>
      rw [h1] at h
      cases h2 : foldAll l with
      | none => rw [foldAll_none l m h2]
      | some xs => rw [h2] at h; cases h
theorem foldAll_len : ∀ (l xs : List Nat), foldAll l = some xs → xs.length = l.length
  | [], xs, h => by cases h; rfl
  | a :: l, zs, h => by
    obtain ⟨x, xs, h1, h2, rfl⟩ := foldAll_some h
    simp [foldAll_len l xs h2]
end Go.Proofs.YtlgibcphfmjddaaDoor
