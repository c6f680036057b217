/-
  Plain laws of the parts of a text between code points that satisfy a test: what is cut at the ends of pieces has the same pieces. No condition.
-/
import Derived.Test.YtehjbmijbgonkaaRuns
namespace Go.Proofs.Ytehjbmijbgonkaa
set_option linter.unusedVariables false

theorem dN_less (n m b0 b1 b2 b3 c1 c2 c3 : Nat) (h : (Lib.decodeN n b0 b1 b2 b3).2 ≤ m) (hm : m ≤ n) (h1 : 1 < m → c1 = b1) (h2 : 2 < m → c2 = b2) (h3 : 3 < m → c3 = b3) : Lib.decodeN m b0 c1 c2 c3 = Lib.decodeN n b0 b1 b2 b3 := by
  by_cases a0 : b0 < 128
  · simp [Lib.decodeN, a0]
  by_cases m1 : 1 < m
  · obtain rfl := h1 m1
    have n1 : 1 < n := by omega
    by_cases a1 : b0 / 32 = 6 ∧ c1 / 64 = 2
    · simp only [Lib.decodeN, a0, m1, n1, a1, if_false, true_and, and_self, if_true]
    by_cases m2 : 2 < m
    · obtain rfl := h2 m2
      have n2 : 2 < n := by omega
      by_cases m3 : 3 < m
      · obtain rfl := h3 m3
        have n3 : 3 < n := by omega
        simp only [Lib.decodeN, m1, n1, m2, n2, m3, n3]
      · unfold Lib.decodeN at h ⊢
        have g : ¬ (b0 / 32 = 6 ∧ (1 < n ∧ c1 / 64 = 2)) := fun e => a1 ⟨e.1, e.2.2⟩
        have g' : ¬ (b0 / 32 = 6 ∧ (1 < m ∧ c1 / 64 = 2)) := fun e => a1 ⟨e.1, e.2.2⟩
        rw [if_neg a0, if_neg g] at h ⊢
        rw [if_neg a0, if_neg g']
        by_cases a2 : b0 / 16 = 14 ∧ c1 / 64 = 2 ∧ c2 / 64 = 2
        · have q : b0 / 16 = 14 ∧ (1 < n ∧ c1 / 64 = 2) ∧ (2 < n ∧ c2 / 64 = 2) := ⟨a2.1, ⟨n1, a2.2.1⟩, n2, a2.2.2⟩
          have q' : b0 / 16 = 14 ∧ (1 < m ∧ c1 / 64 = 2) ∧ (2 < m ∧ c2 / 64 = 2) := ⟨a2.1, ⟨m1, a2.2.1⟩, m2, a2.2.2⟩
          rw [if_pos q, if_pos q']
        · have q : ¬ (b0 / 16 = 14 ∧ (1 < n ∧ c1 / 64 = 2) ∧ (2 < n ∧ c2 / 64 = 2)) := fun e => a2 ⟨e.1, e.2.1.2, e.2.2.2⟩
          have q' : ¬ (b0 / 16 = 14 ∧ (1 < m ∧ c1 / 64 = 2) ∧ (2 < m ∧ c2 / 64 = 2)) := fun e => a2 ⟨e.1, e.2.1.2, e.2.2.2⟩
          rw [if_neg q] at h ⊢
          rw [if_neg q', if_neg (fun e => m3 e.2.2.2.1)]
          split at h
          · split at h
            · simp at h; omega
            · rw [if_pos ‹_›, if_neg ‹_›]
          · rw [if_neg ‹_›]
    · unfold Lib.decodeN at h ⊢
      have g : ¬ (b0 / 32 = 6 ∧ (1 < n ∧ c1 / 64 = 2)) := fun e => a1 ⟨e.1, e.2.2⟩
      have g' : ¬ (b0 / 32 = 6 ∧ (1 < m ∧ c1 / 64 = 2)) := fun e => a1 ⟨e.1, e.2.2⟩
      rw [if_neg a0, if_neg g] at h ⊢
      rw [if_neg a0, if_neg g', if_neg (fun e => m2 e.2.2.1), if_neg (fun e => m2 e.2.2.1.1)]
      split at h
      · split at h
        · simp at h; omega
        · rw [if_pos ‹_›, if_neg ‹_›]
      · rw [if_neg ‹_›]
        split at h
        · split at h
          · simp at h; omega
          · rw [if_pos ‹_›, if_neg ‹_›]
        · rw [if_neg ‹_›]
  · unfold Lib.decodeN at h ⊢
    rw [if_neg a0] at h ⊢
    rw [if_neg a0, if_neg (fun e => m1 e.2.1), if_neg (fun e => m1 e.2.1.1), if_neg (fun e => m1 e.2.1.1)]
    split at h
    · split at h
      · simp at h; omega
      · rw [if_pos ‹_›, if_neg ‹_›]
    · rw [if_neg ‹_›]
      split at h
      · split at h
        · simp at h; omega
        · rw [if_pos ‹_›, if_neg ‹_›]
      · rw [if_neg ‹_›]
        split at h
        · split at h
          · simp at h; omega
          · rw [if_pos ‹_›, if_neg ‹_›]
        · rw [if_neg ‹_›]
/-- what stands behind a code point is of no moment for it -/
theorem dL_take (l : List UInt8) (m : Nat) (h : (Lib.decodeL l).2 ≤ m) : Lib.decodeL (l.take m) = Lib.decodeL l := by
  by_cases hm : l.length ≤ m
  · rw [List.take_of_length_le hm]
  · have h1 := dL_pos l
    have hm0 : 0 < m := by omega
    rw [Lib.decodeL_N] at h ⊢
    rw [Lib.decodeL_N l, List.length_take_of_le (by omega)]
    rw [Lib.getD_takeU l m 0 hm0]
    exact dN_less _ _ _ _ _ _ _ _ _ h (by omega) (fun e => by rw [Lib.getD_takeU l m 1 e]) (fun e => by rw [Lib.getD_takeU l m 2 e]) (fun e => by rw [Lib.getD_takeU l m 3 e])

/-- the pieces from one of them on -/
theorem pcs_from : ∀ (A : List Pc) (pos : Nat) (l : List UInt8) (y : Pc) (R : List Pc), pcs pos l = A ++ y :: R → pos ≤ y.at_ ∧ pcs y.at_ (l.drop (y.at_ - pos)) = y :: R
  | [], pos, l, y, R, h => by
    by_cases hl : l = []
    · subst hl; simp [pcs_nil] at h
    · have h' := h
      rw [pcs_cons pos l hl] at h
      simp only [List.nil_append, List.cons.injEq] at h
      obtain ⟨h1, h2⟩ := h
      have : y.at_ = pos := by rw [← h1]
      rw [this, Nat.sub_self, List.drop_zero]
      exact ⟨Nat.le_refl _, by simpa using h'⟩
  | a :: A, pos, l, y, R, h => by
    by_cases hl : l = []
    · subst hl; simp [pcs_nil] at h
    · rw [pcs_cons pos l hl] at h
      simp only [List.cons_append, List.cons.injEq] at h
      obtain ⟨i1, i2⟩ := pcs_from A _ _ y R h.2
      refine ⟨by omega, ?_⟩
      rw [List.drop_drop] at i2
      rw [← i2]; congr 2; omega
/-- the pieces ahead of one of them -/
theorem pcs_ahead : ∀ (A : List Pc) (pos : Nat) (l : List UInt8) (y : Pc) (R : List Pc), pcs pos l = A ++ y :: R → pcs pos (l.take (y.at_ - pos)) = A
  | [], pos, l, y, R, h => by
    by_cases hl : l = []
    · subst hl; simp [pcs_nil] at h
    · rw [pcs_cons pos l hl] at h
      simp only [List.nil_append, List.cons.injEq] at h
      have : y.at_ = pos := by rw [← h.1]
      rw [this, Nat.sub_self, List.take_zero, pcs_nil]
  | a :: A, pos, l, y, R, h => by
    by_cases hl : l = []
    · subst hl; simp [pcs_nil] at h
    · have h' := h
      rw [pcs_cons pos l hl] at h
      simp only [List.cons_append, List.cons.injEq] at h
      have i1 := pcs_ahead A _ _ y R h.2
      have i2 := (pcs_from A _ _ y R h.2).1
      have hp := dL_pos l
      have hle := dL_le l hl
      have ht := dL_take l (y.at_ - pos) (by omega)
      have hne : l.take (y.at_ - pos) ≠ [] := by
        intro e
        have := congrArg List.length e
        rw [List.length_take, List.length_nil] at this
        have := List.length_pos_iff.2 hl; omega
      rw [pcs_cons _ _ hne, ht, h.1, List.drop_take, show y.at_ - pos - (Lib.decodeL l).2 = y.at_ - (pos + (Lib.decodeL l).2) by omega, i1]
/-- which code points there are is one, wherever the text begins -/
theorem pcs_move : ∀ (n pos q : Nat) (l : List UInt8), l.length ≤ n → (pcs pos l).map (fun x => x.r) = (pcs q l).map (fun x => x.r)
  | 0, pos, q, l, h => by
    have : l = [] := List.length_eq_zero_iff.1 (by omega)
    subst this; rfl
  | n + 1, pos, q, l, h => by
    by_cases hl : l = []
    · subst hl; rfl
    · have h1 := dL_pos l
      have h2 : 0 < l.length := List.length_pos_iff.2 hl
      rw [pcs_cons pos l hl, pcs_cons q l hl, List.map_cons, List.map_cons, pcs_move n _ (q + (Lib.decodeL l).2) _ (by rw [List.length_drop]; omega)]

/-- where a part ends -/
def EndsAt (p : Nat → Bool) (n b : Nat) (B : List Pc) : Prop := (B = [] ∧ b = n) ∨ ∃ z B', B = z :: B' ∧ p z.r = true ∧ b = z.at_
theorem spans_mem (p : Nat → Bool) (n : Nat) : ∀ (ps : List Pc) (st : Option Nat) (x : Nat × Nat), x ∈ spans p n st ps →
    (∃ A y S B, ps = A ++ (y :: S) ++ B ∧ x.1 = y.at_ ∧ (∀ z ∈ y :: S, p z.r = false) ∧ EndsAt p n x.2 B) ∨
    (∃ a S B, st = some a ∧ ps = S ++ B ∧ x.1 = a ∧ (∀ z ∈ S, p z.r = false) ∧ EndsAt p n x.2 B)
  | [], none, x, h => by simp [spans] at h
  | [], some a, x, h => by
    simp [spans] at h; subst h
    exact .inr ⟨a, [], [], rfl, rfl, rfl, by simp, .inl ⟨rfl, rfl⟩⟩
  | y :: ps, none, x, h => by
    cases hp : p y.r
    · simp only [spans, hp, Bool.false_eq_true, if_false] at h
      rcases spans_mem p n ps (some y.at_) x h with ⟨A, y', S, B, e, h1, h2, h3⟩ | ⟨a, S, B, e0, e, h1, h2, h3⟩
      · exact .inl ⟨y :: A, y', S, B, by rw [e]; simp, h1, h2, h3⟩
      · cases e0
        exact .inl ⟨[], y, S, B, by rw [e]; simp, h1, (by intro z hz; rcases List.mem_cons.1 hz with rfl | hz; exact hp; exact h2 z hz), h3⟩
    · simp only [spans, hp, if_true] at h
      rcases spans_mem p n ps none x h with ⟨A, y', S, B, e, h1, h2, h3⟩ | ⟨a, S, B, e0, _⟩
      · exact .inl ⟨y :: A, y', S, B, by rw [e]; simp, h1, h2, h3⟩
      · cases e0
  | y :: ps, some a, x, h => by
    cases hp : p y.r
    · simp only [spans, hp, Bool.false_eq_true, if_false] at h
      rcases spans_mem p n ps (some a) x h with ⟨A, y', S, B, e, h1, h2, h3⟩ | ⟨a', S, B, e0, e, h1, h2, h3⟩
      · exact .inl ⟨y :: A, y', S, B, by rw [e]; simp, h1, h2, h3⟩
      · cases e0
        exact .inr ⟨a, y :: S, B, rfl, by rw [e]; simp, h1, (by intro z hz; rcases List.mem_cons.1 hz with rfl | hz; exact hp; exact h2 z hz), h3⟩
    · simp only [spans, hp, if_true] at h
      rcases List.mem_cons.1 h with rfl | h
      · exact .inr ⟨a, [], y :: ps, rfl, rfl, rfl, by simp, .inr ⟨y, ps, rfl, hp, rfl⟩⟩
      · rcases spans_mem p n ps none x h with ⟨A, y', S, B, e, h1, h2, h3⟩ | ⟨a', S, B, e0, _⟩
        · exact .inl ⟨y :: A, y', S, B, by rw [e]; simp, h1, h2, h3⟩
        · cases e0
theorem cut_list (s : ByteArray) (x : Nat × Nat) : (cut s x).data.toList = (s.data.toList.drop x.1).take (x.2 - x.1) := by
  simp [cut, ByteArray.data_extract, List.extract_eq_take_drop]
/-- a part of a text: it is not empty, and none of its code points satisfies the test -/
theorem spans_part (p : Nat → Bool) (s : ByteArray) (x : Nat × Nat) (h : x ∈ spans p s.size none (pcs 0 s.data.toList)) :
    x.1 < x.2 ∧ x.2 ≤ s.size ∧ pcs x.1 (cut s x).data.toList ≠ [] ∧ ∀ z ∈ pcs x.1 (cut s x).data.toList, p z.r = false := by
  rcases spans_mem p s.size _ none x h with ⟨A, y, S, B, e, h1, h2, h3⟩ | ⟨_, _, _, e, _⟩
  case inr => cases e
  rw [List.append_assoc, List.cons_append] at e
  obtain ⟨_, k1⟩ := pcs_from A 0 _ y _ e
  rw [Nat.sub_zero, ← h1] at k1
  have hin := pcs_in s.data.toList.length 0 s.data.toList (Nat.le_refl _)
  have hy := hin y (by rw [e]; simp)
  have hl := len_data s
  rcases h3 with ⟨rfl, hb⟩ | ⟨z, B', rfl, hz, hb⟩
  · have hc : (cut s x).data.toList = s.data.toList.drop x.1 := by
      rw [cut_list, List.take_of_length_le (by rw [List.length_drop]; omega)]
    rw [hc, k1]
    refine ⟨by omega, by omega, by simp, ?_⟩
    intro u hu; exact h2 u (by simpa using hu)
  · have k2 := pcs_ahead (y :: S) x.1 _ z B' (by rw [k1]; simp)
    have hzin := hin z (by rw [e]; simp)
    have k3 := pcs_from (y :: S) x.1 _ z B' (by rw [k1]; simp)
    rw [cut_list, hb, k2]
    refine ⟨?_, by omega, by simp, h2⟩
    rcases Nat.lt_or_ge x.1 z.at_ with hlt | hge
    · omega
    · exfalso
      have : z.at_ - x.1 = 0 := by omega
      rw [this, List.take_zero, pcs_nil] at k2
      cases k2
/-- where no code point satisfies it, none is first -/
theorem first_none (p : Nat → Bool) : ∀ (l : List Pc), (∀ z ∈ l, p z.r = false) → firstAt p l = -1
  | [], _ => rfl
  | x :: l, h => by
    simp only [firstAt, h x (by simp), Bool.false_eq_true, if_false]
    exact first_none p l (fun z hz => h z (by simp [hz]))
theorem first_some (p : Nat → Bool) : ∀ (l : List Pc), firstAt p l < 0 → ∀ z ∈ l, p z.r = false
  | [], _, z, hz => by simp at hz
  | x :: l, h, z, hz => by
    cases hp : p x.r
    · simp only [firstAt, hp, Bool.false_eq_true, if_false] at h
      rcases List.mem_cons.1 hz with rfl | hz
      · exact hp
      · exact first_some p l h z hz
    · simp only [firstAt, hp, if_true] at h; omega
/-- a part has no code point that satisfies the test -/
theorem part_first (p : Nat → Bool) (s : ByteArray) (f : ByteArray) (h : f ∈ fieldsP p s) : f.size ≠ 0 ∧ firstAt p (pcs 0 f.data.toList) = -1 ∧ ∃ a b, a < b ∧ b ≤ s.size ∧ f = s.extract a b := by
  obtain ⟨x, hx, rfl⟩ := List.mem_map.1 h
  obtain ⟨h1, h2, h3, h4⟩ := spans_part p s x hx
  refine ⟨?_, ?_, x.1, x.2, h1, h2, rfl⟩
  · intro e; apply h3
    have hl := len_data (cut s x)
    rw [e] at hl
    rw [List.length_eq_zero_iff.1 hl, pcs_nil]
  · apply first_none
    intro z hz
    have hm : z.r ∈ (pcs 0 (cut s x).data.toList).map (fun x => x.r) := List.mem_map.2 ⟨z, hz, rfl⟩
    rw [pcs_move _ 0 x.1 _ (Nat.le_refl _)] at hm
    obtain ⟨u, hu, e⟩ := List.mem_map.1 hm
    rw [← e]; exact h4 u hu
/-- there is no part just if all code points satisfy the test -/
theorem spans_none (p : Nat → Bool) (n : Nat) : ∀ (ps : List Pc), spans p n none ps = [] ↔ ∀ z ∈ ps, p z.r = true
  | [] => by simp [spans]
  | y :: ps => by
    cases hp : p y.r
    · simp only [spans, hp, Bool.false_eq_true, if_false]
      constructor
      · intro h
        exfalso
        have : ∀ (ps : List Pc) (a : Nat), spans p n (some a) ps ≠ [] := by
          intro ps
          induction ps with
          | nil => intro a; simp [spans]
          | cons z ps ih => intro a; simp only [spans]; split <;> simp [ih]
        exact this _ _ h
      · intro h; have := h y (by simp); rw [hp] at this; cases this
    · simp only [spans, hp, if_true, spans_none p n ps, List.mem_cons, forall_eq_or_imp, true_and]
theorem parts_none (p : Nat → Bool) (s : ByteArray) : fieldsP p s = [] ↔ firstAt (fun x => !p x) (pcs 0 s.data.toList) < 0 := by
  unfold fieldsP
  rw [List.map_eq_nil_iff, spans_none]
  constructor
  · intro h; rw [first_none _ _ (fun z hz => by simp [h z hz])]; omega
  · intro h z hz; have := first_some _ _ h z hz; simpa using this
end Go.Proofs.Ytehjbmijbgonkaa
