/-
  Plain laws of the pieces of a text: the first one that satisfies a test, the parts between, what is cut at the ends of pieces. No condition.
-/
import Derived.Test.YtlgibcphfmjddaaDoorBase
import Derived.Test.YtlgibcphfmjddaaDoorUtf
import Derived.Shelf.GgClosure.StringsIndexFunc
import Derived.Shelf.GgClosure.StringsTrimFunc
namespace Go.Proofs.YtlgibcphfmjddaaDoor
set_option linter.unusedVariables false

/-- where the first piece stands that satisfies p; -1 -/
def firstAt (p : Nat → Bool) : List Pc → Int
  | [] => -1
  | x :: l => if p x.r then (x.at_ : Int) else firstAt p l
theorem first_hit (p : Nat → Bool) (ps : List Pc) (k : Nat) (hk : k < ps.length) (hp : p ps[k].r = true) : firstAt p (ps.drop k) = (ps[k].at_ : Int) := by
  rw [List.drop_eq_getElem_cons hk]; simp [firstAt, hp]
theorem first_miss (p : Nat → Bool) (ps : List Pc) (k : Nat) (hk : k < ps.length) (hp : p ps[k].r = false) : firstAt p (ps.drop k) = firstAt p (ps.drop (k + 1)) := by
  rw [List.drop_eq_getElem_cons hk]; simp [firstAt, hp]

/-! the library's way and the reference's way are one -/
theorem idxFrom_pcs (p : Nat → Bool) (truth : Bool) (s : ByteArray) : ∀ (f pos : Nat), s.size ≤ pos + f → Lib.idxFuncFrom p truth s f pos = firstAt (fun x => p x == truth) (pcs pos (s.data.toList.drop pos))
  | 0, pos, h => by
    rw [drop_end s pos (by omega), pcs_nil]; rfl
  | f + 1, pos, h => by
    by_cases hp : pos < s.size
    · have hne : s.data.toList.drop pos ≠ [] := by
        intro h0; have := congrArg List.length h0; rw [List.length_drop, len_data] at this; simp at this; omega
      have hw := Lib.width_pos s pos
      rw [pcs_cons pos _ hne]
      simp only [Lib.idxFuncFrom, hp, if_true, firstAt, ← decode_drop]
      rw [idxFrom_pcs p truth s f (pos + (Utf8.decode s pos).2) (by omega), List.drop_drop]
      by_cases e : p (Utf8.decode s pos).1 = truth
      · rw [if_pos e, if_pos (by simp [e])]
      · rw [if_neg e, if_neg (by simp [e])]
    · rw [Lib.idxFuncFrom_end p truth s _ pos hp, drop_end s pos (by omega), pcs_nil]; rfl
theorem idx_pcs (p : Nat → Bool) (truth : Bool) (s : ByteArray) : Lib.idxFunc p truth s = firstAt (fun x => p x == truth) (pcs 0 s.data.toList) := by
  unfold Lib.idxFunc; rw [idxFrom_pcs p truth s s.size 0 (by omega), List.drop_zero]
theorem first_congr {p q : Nat → Bool} (h : ∀ x, p x = q x) (l : List Pc) : firstAt p l = firstAt q l := by
  have : p = q := funext h
  rw [this]
theorem idx_true (p : Nat → Bool) (s : ByteArray) : Lib.idxFunc p true s = firstAt p (pcs 0 s.data.toList) := by
  rw [idx_pcs]; exact first_congr (fun x => by cases p x <;> rfl) _
theorem idx_false (p : Nat → Bool) (s : ByteArray) : Lib.idxFunc p false s = firstAt (fun x => !p x) (pcs 0 s.data.toList) := by
  rw [idx_pcs]; exact first_congr (fun x => by cases p x <;> rfl) _
/-- what is left when the pieces ahead that satisfy p are taken away -/
def trimL (p : Nat → Bool) (s : ByteArray) : ByteArray := if firstAt (fun x => !p x) (pcs 0 s.data.toList) < 0 then ⟨#[]⟩ else s.extract (firstAt (fun x => !p x) (pcs 0 s.data.toList)).toNat s.size
theorem trimLeft_is (p : Nat → Bool) (s : ByteArray) : Lib.trimLeftF p s = trimL p s := by
  unfold Lib.trimLeftF trimL
  rw [← idx_false]
  have := Lib.idxFunc_range p false s
  by_cases h : Lib.idxFunc p false s = -1
  · rw [if_pos h, if_pos (by omega)]
  · rw [if_neg h, if_neg (by omega)]
/-- from where to where the parts go: n is the text's length, st where a part has begun -/
def spans (p : Nat → Bool) (n : Nat) : Option Nat → List Pc → List (Nat × Nat)
  | none, [] => []
  | some a, [] => [(a, n)]
  | none, x :: l => if p x.r then spans p n none l else spans p n (some x.at_) l
  | some a, x :: l => if p x.r then (a, x.at_) :: spans p n none l else spans p n (some a) l
def cut (s : ByteArray) (x : Nat × Nat) : ByteArray := s.extract x.1 x.2
/-- the parts of a text -/
def fieldsP (p : Nat → Bool) (s : ByteArray) : List ByteArray := (spans p s.size none (pcs 0 s.data.toList)).map (cut s)

/-- every piece lies within the text -/
theorem pcs_in : ∀ (n pos : Nat) (l : List UInt8), l.length ≤ n → ∀ x ∈ pcs pos l, pos ≤ x.at_ ∧ 1 ≤ x.size ∧ x.at_ + x.size ≤ pos + l.length
  | 0, pos, l, h, x, hx => by
    have : l = [] := List.length_eq_zero_iff.1 (by omega)
    subst this; simp [pcs_nil] at hx
  | n + 1, pos, l, h, x, hx => by
    by_cases hl : l = []
    · subst hl; simp [pcs_nil] at hx
    · rw [pcs_cons pos l hl] at hx
      have h1 := dL_pos l
      have h2 := dL_le l hl
      rcases List.mem_cons.1 hx with rfl | hx
      · simp; omega
      · have := pcs_in n _ _ (by rw [List.length_drop]; omega) x hx
        rw [List.length_drop] at this; omega
/-- the pieces stand one behind the other -/
theorem pcs_sorted : ∀ (n pos : Nat) (l : List UInt8), l.length ≤ n → ∀ i j (hi : i < (pcs pos l).length) (hj : j < (pcs pos l).length), i ≤ j → (pcs pos l)[i].at_ ≤ (pcs pos l)[j].at_
  | 0, pos, l, h, i, j, hi, hj, hij => by
    have : l = [] := List.length_eq_zero_iff.1 (by omega)
    subst this; simp [pcs_nil] at hi
  | n + 1, pos, l, h, i, j, hi, hj, hij => by
    by_cases hl : l = []
    · subst hl; simp [pcs_nil] at hi
    · have h1 := dL_pos l
      have h2 := dL_le l hl
      have hin := pcs_in (n + 1) pos l h
      have e := pcs_cons pos l hl
      cases j with
      | zero => obtain rfl : i = 0 := by omega
                exact Nat.le_refl _
      | succ j =>
        cases i with
        | zero =>
          have := (hin _ (List.getElem_mem hj)).1
          have e0 : (pcs pos l)[0].at_ = pos := by simp only [e, List.getElem_cons_zero]
          omega
        | succ i =>
          have hl2 : (pcs pos l).length = (pcs (pos + (Lib.decodeL l).2) (l.drop (Lib.decodeL l).2)).length + 1 := by rw [e]; simp
          have := pcs_sorted n (pos + (Lib.decodeL l).2) (l.drop (Lib.decodeL l).2) (by rw [List.length_drop]; omega) i j (by omega) (by omega) (by omega)
          have ei : (pcs pos l)[i + 1].at_ = ((pcs (pos + (Lib.decodeL l).2) (l.drop (Lib.decodeL l).2))[i]'(by omega)).at_ := by simp only [e, List.getElem_cons_succ]
          have ej : (pcs pos l)[j + 1].at_ = ((pcs (pos + (Lib.decodeL l).2) (l.drop (Lib.decodeL l).2))[j]'(by omega)).at_ := by simp only [e, List.getElem_cons_succ]
          omega
/-- where the loop stands: k pieces are through, st is open, done has been told -/
def RunRel (p : Nat → Bool) (n : Nat) (ps : List Pc) (k : Nat) (st : Option Nat) (done : List (Nat × Nat)) : Prop :=
  spans p n none ps = done ++ spans p n st (ps.drop k) ∧ done.length ≤ k ∧ (∀ a, st = some a → a ≤ n ∧ ∀ j (hj : j < ps.length), k ≤ j → a ≤ ps[j].at_)
theorem run_start (p : Nat → Bool) (n : Nat) (ps : List Pc) : RunRel p n ps 0 none [] := ⟨rfl, Nat.le_refl _, fun a h => by cases h⟩
section
variable {p : Nat → Bool} {n : Nat} {ps : List Pc} {k : Nat} {done : List (Nat × Nat)}
theorem run_out_hit (h : RunRel p n ps k none done) (hk : k < ps.length) (hp : p ps[k].r = true) : RunRel p n ps (k + 1) none done := by
  obtain ⟨h1, h2, h3⟩ := h
  rw [List.drop_eq_getElem_cons hk] at h1
  simp only [spans, hp, if_true] at h1
  exact ⟨h1, by omega, fun a h => by cases h⟩
theorem run_out_miss (h : RunRel p n ps k none done) (hk : k < ps.length) (hp : p ps[k].r = false) (hb : ps[k].at_ ≤ n) (hsort : ∀ i j (hi : i < ps.length) (hj : j < ps.length), i ≤ j → ps[i].at_ ≤ ps[j].at_) : RunRel p n ps (k + 1) (some ps[k].at_) done := by
  obtain ⟨h1, h2, h3⟩ := h
  rw [List.drop_eq_getElem_cons hk] at h1
  simp only [spans, hp, Bool.false_eq_true, if_false] at h1
  exact ⟨h1, by omega, fun a h => by cases h; exact ⟨hb, fun j hj hkj => hsort k j hk hj (by omega)⟩⟩
theorem run_in_hit {a : Nat} (h : RunRel p n ps k (some a) done) (hk : k < ps.length) (hp : p ps[k].r = true) : RunRel p n ps (k + 1) none (done ++ [(a, ps[k].at_)]) := by
  obtain ⟨h1, h2, h3⟩ := h
  rw [List.drop_eq_getElem_cons hk] at h1
  simp only [spans, hp, if_true] at h1
  exact ⟨by rw [h1]; simp, by simp; omega, fun a h => by cases h⟩
theorem run_in_miss {a : Nat} (h : RunRel p n ps k (some a) done) (hk : k < ps.length) (hp : p ps[k].r = false) : RunRel p n ps (k + 1) (some a) done := by
  obtain ⟨h1, h2, h3⟩ := h
  rw [List.drop_eq_getElem_cons hk] at h1
  simp only [spans, hp, Bool.false_eq_true, if_false] at h1
  exact ⟨h1, by omega, fun b hb => ⟨(h3 b hb).1, fun j hj hkj => (h3 b hb).2 j hj (by omega)⟩⟩
theorem run_end_none (h : RunRel p n ps ps.length none done) : spans p n none ps = done := by
  have := h.1; rw [List.drop_length] at this; simpa [spans] using this
theorem run_end_some {a : Nat} (h : RunRel p n ps ps.length (some a) done) : spans p n none ps = done ++ [(a, n)] := by
  have := h.1; rw [List.drop_length] at this; simpa [spans] using this
end
theorem spans_len (p : Nat → Bool) (n : Nat) : ∀ (ps : List Pc) (st : Option Nat), (spans p n st ps).length ≤ ps.length + (if st.isSome then 1 else 0)
  | [], none => by simp [spans]
  | [], some a => by simp [spans]
  | x :: l, none => by
    have h1 := spans_len p n l none; have h2 := spans_len p n l (some x.at_)
    simp at h1 h2
    simp only [spans]; split <;> simp <;> omega
  | x :: l, some a => by
    have h1 := spans_len p n l none; have h2 := spans_len p n l (some a)
    simp at h1 h2
    simp only [spans]; split <;> simp <;> omega
theorem fieldsP_len (p : Nat → Bool) (s : ByteArray) : (fieldsP p s).length ≤ s.size := by
  have h1 := spans_len p s.size (pcs 0 s.data.toList) none
  have h2 := pcs_len s.data.toList.length 0 s.data.toList (Nat.le_refl _)
  have h3 := len_data s
  simp at h1
  simp [fieldsP]
  simp at h2 h3; omega
theorem dN_less (n m b0 b1 b2 b3 c1 c2 c3 : Nat) (h : (Lib.decodeN n b0 b1 b2 b3).2 ≤ m) (hm : m ≤ n) (h1 : 1 < m → c1 = b1) (h2 : 2 < m → c2 = b2) (h3 : 3 < m → c3 = b3) : Lib.decodeN m b0 c1 c2 c3 = Lib.decodeN n b0 b1 b2 b3 := by
  by_cases a0 : b0 < 128
  · simp [Lib.decodeN, a0]
  by_cases m1 : 1 < m
  · obtain rfl := h1 m1
    have n1 : 1 < n := by omega
    by_cases a1 : b0 / 32 = 6 ∧ c1 / 64 = 2
    · simp only [Lib.decodeN, a0, m1, n1, a1, if_false, true_and, and_self, if_true]
    by_cases m2 : 2 < m
    · obtain rfl := h2 m2
      have n2 : 2 < n := by omega
      by_cases m3 : 3 < m
      · obtain rfl := h3 m3
        have n3 : 3 < n := by omega
        simp only [Lib.decodeN, m1, n1, m2, n2, m3, n3]
      · unfold Lib.decodeN at h ⊢
        have g : ¬ (b0 / 32 = 6 ∧ (1 < n ∧ c1 / 64 = 2)) := fun e => a1 ⟨e.1, e.2.2⟩
        have g' : ¬ (b0 / 32 = 6 ∧ (1 < m ∧ c1 / 64 = 2)) := fun e => a1 ⟨e.1, e.2.2⟩
        rw [if_neg a0, if_neg g] at h ⊢
        rw [if_neg a0, if_neg g']
        by_cases a2 : b0 / 16 = 14 ∧ c1 / 64 = 2 ∧ c2 / 64 = 2
        · have q : b0 / 16 = 14 ∧ (1 < n ∧ c1 / 64 = 2) ∧ (2 < n ∧ c2 / 64 = 2) := ⟨a2.1, ⟨n1, a2.2.1⟩, n2, a2.2.2⟩
          have q' : b0 / 16 = 14 ∧ (1 < m ∧ c1 / 64 = 2) ∧ (2 < m ∧ c2 / 64 = 2) := ⟨a2.1, ⟨m1, a2.2.1⟩, m2, a2.2.2⟩
          rw [if_pos q, if_pos q']
        · have q : ¬ (b0 / 16 = 14 ∧ (1 < n ∧ c1 / 64 = 2) ∧ (2 < n ∧ c2 / 64 = 2)) := fun e => a2 ⟨e.1, e.2.1.2, e.2.2.2⟩
          have q' : ¬ (b0 / 16 = 14 ∧ (1 < m ∧ c1 / 64 = 2) ∧ (2 < m ∧ c2 / 64 = 2)) := fun e => a2 ⟨e.1, e.2.1.2, e.2.2.2⟩
          rw [if_neg q] at h ⊢
          rw [if_neg q', if_neg (fun e => m3 e.2.2.2.1)]
          split at h
          · split at h
            · simp at h; omega
            · rw [if_pos ‹_›, if_neg ‹_›]
          · rw [if_neg ‹_›]
    · unfold Lib.decodeN at h ⊢
      have g : ¬ (b0 / 32 = 6 ∧ (1 < n ∧ c1 / 64 = 2)) := fun e => a1 ⟨e.1, e.2.2⟩
      have g' : ¬ (b0 / 32 = 6 ∧ (1 < m ∧ c1 / 64 = 2)) := fun e => a1 ⟨e.1, e.2.2⟩
      rw [if_neg a0, if_neg g] at h ⊢
      rw [if_neg a0, if_neg g', if_neg (fun e => m2 e.2.2.1), if_neg (fun e => m2 e.2.2.1.1)]
      split at h
      · split at h
        · simp at h; omega
        · rw [if_pos ‹_›, if_neg ‹_›]
      · rw [if_neg ‹_›]
        split at h
        · split at h
          · simp at h; omega
          · rw [if_pos ‹_›, if_neg ‹_›]
        · rw [if_neg ‹_›]
  · unfold Lib.decodeN at h ⊢
    rw [if_neg a0] at h ⊢
    rw [if_neg a0, if_neg (fun e => m1 e.2.1), if_neg (fun e => m1 e.2.1.1), if_neg (fun e => m1 e.2.1.1)]
    split at h
    · split at h
      · simp at h; omega
      · rw [if_pos ‹_›, if_neg ‹_›]
    · rw [if_neg ‹_›]
      split at h
      · split at h
        · simp at h; omega
        · rw [if_pos ‹_›, if_neg ‹_›]
      · rw [if_neg ‹_›]
        split at h
        · split at h
          · simp at h; omega
          · rw [if_pos ‹_›, if_neg ‹_›]
        · rw [if_neg ‹_›]
/-- what stands behind a code point is of no moment for it -/
theorem dL_take (l : List UInt8) (m : Nat) (h : (Lib.decodeL l).2 ≤ m) : Lib.decodeL (l.take m) = Lib.decodeL l := by
  by_cases hm : l.length ≤ m
  · rw [List.take_of_length_le hm]
  · have h1 := dL_pos l
    have hm0 : 0 < m := by omega
    rw [Lib.decodeL_N] at h ⊢
    rw [Lib.decodeL_N l, List.length_take_of_le (by omega)]
    rw [Lib.getD_takeU l m 0 hm0]
    exact dN_less _ _ _ _ _ _ _ _ _ h (by omega) (fun e => by rw [Lib.getD_takeU l m 1 e]) (fun e => by rw [Lib.getD_takeU l m 2 e]) (fun e => by rw [Lib.getD_takeU l m 3 e])

/-- the pieces from one of them on -/
theorem pcs_from : ∀ (A : List Pc) (pos : Nat) (l : List UInt8) (y : Pc) (R : List Pc), pcs pos l = A ++ y :: R → pos ≤ y.at_ ∧ pcs y.at_ (l.drop (y.at_ - pos)) = y :: R
  | [], pos, l, y, R, h => by
    by_cases hl : l = []
    · subst hl; simp [pcs_nil] at h
    · have h' := h
      rw [pcs_cons pos l hl] at h
      simp only [List.nil_append, List.cons.injEq] at h
      obtain ⟨h1, h2⟩ := h
      have : y.at_ = pos := by rw [← h1]
      rw [this, Nat.sub_self, List.drop_zero]
      exact ⟨Nat.le_refl _, by simpa using h'⟩
  | a :: A, pos, l, y, R, h => by
    by_cases hl : l = []
    · subst hl; simp [pcs_nil] at h
    · rw [pcs_cons pos l hl] at h
      simp only [List.cons_append, List.cons.injEq] at h
      obtain ⟨i1, i2⟩ := pcs_from A _ _ y R h.2
      refine ⟨by omega, ?_⟩
      rw [List.drop_drop] at i2
      rw [← i2]; congr 2; omega
/-- the pieces ahead of one of them -/
theorem pcs_ahead : ∀ (A : List Pc) (pos : Nat) (l : List UInt8) (y : Pc) (R : List Pc), pcs pos l = A ++ y :: R → pcs pos (l.take (y.at_ - pos)) = A
  | [], pos, l, y, R, h => by
    by_cases hl : l = []
    · subst hl; simp [pcs_nil] at h
    · rw [pcs_cons pos l hl] at h
      simp only [List.nil_append, List.cons.injEq] at h
      have : y.at_ = pos := by rw [← h.1]
      rw [this, Nat.sub_self, List.take_zero, pcs_nil]
  | a :: A, pos, l, y, R, h => by
    by_cases hl : l = []
    · subst hl; simp [pcs_nil] at h
    · have h' := h
      rw [pcs_cons pos l hl] at h
      simp only [List.cons_append, List.cons.injEq] at h
      have i1 := pcs_ahead A _ _ y R h.2
      have i2 := (pcs_from A _ _ y R h.2).1
      have hp := dL_pos l
      have hle := dL_le l hl
      have ht := dL_take l (y.at_ - pos) (by omega)
      have hne : l.take (y.at_ - pos) ≠ [] := by
        intro e
        have := congrArg List.length e
        rw [List.length_take, List.length_nil] at this
        have := List.length_pos_iff.2 hl; omega
      rw [pcs_cons _ _ hne, ht, h.1, List.drop_take, show y.at_ - pos - (Lib.decodeL l).2 = y.at_ - (pos + (Lib.decodeL l).2) by omega, i1]
/-- which code points there are is one, wherever the text begins -/
theorem pcs_move : ∀ (n pos q : Nat) (l : List UInt8), l.length ≤ n → (pcs pos l).map (fun x => x.r) = (pcs q l).map (fun x => x.r)
  | 0, pos, q, l, h => by
    have : l = [] := List.length_eq_zero_iff.1 (by omega)
    subst this; rfl
  | n + 1, pos, q, l, h => by
    by_cases hl : l = []
    · subst hl; rfl
    · have h1 := dL_pos l
      have h2 : 0 < l.length := List.length_pos_iff.2 hl
      rw [pcs_cons pos l hl, pcs_cons q l hl, List.map_cons, List.map_cons, pcs_move n _ (q + (Lib.decodeL l).2) _ (by rw [List.length_drop]; omega)]

/-- where a part ends -/
def EndsAt (p : Nat → Bool) (n b : Nat) (B : List Pc) : Prop := (B = [] ∧ b = n) ∨ ∃ z B', B = z :: B' ∧ p z.r = true ∧ b = z.at_
theorem spans_mem (p : Nat → Bool) (n : Nat) : ∀ (ps : List Pc) (st : Option Nat) (x : Nat × Nat), x ∈ spans p n st ps →
    (∃ A y S B, ps = A ++ (y :: S) ++ B ∧ x.1 = y.at_ ∧ (∀ z ∈ y :: S, p z.r = false) ∧ EndsAt p n x.2 B) ∨
    (∃ a S B, st = some a ∧ ps = S ++ B ∧ x.1 = a ∧ (∀ z ∈ S, p z.r = false) ∧ EndsAt p n x.2 B)
  | [], none, x, h => by simp [spans] at h
  | [], some a, x, h => by
    simp [spans] at h; subst h
    exact .inr ⟨a, [], [], rfl, rfl, rfl, by simp, .inl ⟨rfl, rfl⟩⟩
  | y :: ps, none, x, h => by
    cases hp : p y.r
    · simp only [spans, hp, Bool.false_eq_true, if_false] at h
      rcases spans_mem p n ps (some y.at_) x h with ⟨A, y', S, B, e, h1, h2, h3⟩ | ⟨a, S, B, e0, e, h1, h2, h3⟩
      · exact .inl ⟨y :: A, y', S, B, by rw [e]; simp, h1, h2, h3⟩
      · cases e0
        exact .inl ⟨[], y, S, B, by rw [e]; simp, h1, (by intro z hz; rcases List.mem_cons.1 hz with rfl | hz; exact hp; exact h2 z hz), h3⟩
    · simp only [spans, hp, if_true] at h
      rcases spans_mem p n ps none x h with ⟨A, y', S, B, e, h1, h2, h3⟩ | ⟨a, S, B, e0, _⟩
      · exact .inl ⟨y :: A, y', S, B, by rw [e]; simp, h1, h2, h3⟩
      · cases e0
  | y :: ps, some a, x, h => by
    cases hp : p y.r
    · simp only [spans, hp, Bool.false_eq_true, if_false] at h
      rcases spans_mem p n ps (some a) x h with ⟨A, y', S, B, e, h1, h2, h3⟩ | ⟨a', S, B, e0, e, h1, h2, h3⟩
      · exact .inl ⟨y :: A, y', S, B, by rw [e]; simp, h1, h2, h3⟩
      · cases e0
        exact .inr ⟨a, y :: S, B, rfl, by rw [e]; simp, h1, (by intro z hz; rcases List.mem_cons.1 hz with rfl | hz; exact hp; exact h2 z hz), h3⟩
    · simp only [spans, hp, if_true] at h
      rcases List.mem_cons.1 h with rfl | h
      · exact .inr ⟨a, [], y :: ps, rfl, rfl, rfl, by simp, .inr ⟨y, ps, rfl, hp, rfl⟩⟩
      · rcases spans_mem p n ps none x h with ⟨A, y', S, B, e, h1, h2, h3⟩ | ⟨a', S, B, e0, _⟩
        · exact .inl ⟨y :: A, y', S, B, by rw [e]; simp, h1, h2, h3⟩
        · cases e0
theorem cut_list (s : ByteArray) (x : Nat × Nat) : (cut s x).data.toList = (s.data.toList.drop x.1).take (x.2 - x.1) := by
  simp [cut, ByteArray.data_extract, List.extract_eq_take_drop]
/-- a part of a text: it is not empty, and none of its code points satisfies the test -/
theorem spans_part (p : Nat → Bool) (s : ByteArray) (x : Nat × Nat) (h : x ∈ spans p s.size none (pcs 0 s.data.toList)) :
    x.1 < x.2 ∧ x.2 ≤ s.size ∧ pcs x.1 (cut s x).data.toList ≠ [] ∧ ∀ z ∈ pcs x.1 (cut s x).data.toList, p z.r = false := by
  rcases spans_mem p s.size _ none x h with ⟨A, y, S, B, e, h1, h2, h3⟩ | ⟨_, _, _, e, _⟩
  case inr => cases e
  rw [List.append_assoc, List.cons_append] at e
  obtain ⟨_, k1⟩ := pcs_from A 0 _ y _ e
  rw [Nat.sub_zero, ← h1] at k1
  have hin := pcs_in s.data.toList.length 0 s.data.toList (Nat.le_refl _)
  have hy := hin y (by rw [e]; simp)
  have hl := len_data s
  rcases h3 with ⟨rfl, hb⟩ | ⟨z, B', rfl, hz, hb⟩
  · have hc : (cut s x).data.toList = s.data.toList.drop x.1 := by
      rw [cut_list, List.take_of_length_le (by rw [List.length_drop]; omega)]
    rw [hc, k1]
    refine ⟨by omega, by omega, by simp, ?_⟩
    intro u hu; exact h2 u (by simpa using hu)
  · have k2 := pcs_ahead (y :: S) x.1 _ z B' (by rw [k1]; simp)
    have hzin := hin z (by rw [e]; simp)
    have k3 := pcs_from (y :: S) x.1 _ z B' (by rw [k1]; simp)
    rw [cut_list, hb, k2]
    refine ⟨?_, by omega, by simp, h2⟩
    rcases Nat.lt_or_ge x.1 z.at_ with hlt | hge
    · omega
    · exfalso
      have : z.at_ - x.1 = 0 := by omega
      rw [this, List.take_zero, pcs_nil] at k2
      cases k2
/-- where no code point satisfies it, none is first -/
theorem first_none (p : Nat → Bool) : ∀ (l : List Pc), (∀ z ∈ l, p z.r = false) → firstAt p l = -1
  | [], _ => rfl
  | x :: l, h => by
    simp only [firstAt, h x (by simp), Bool.false_eq_true, if_false]
    exact first_none p l (fun z hz => h z (by simp [hz]))
theorem first_some (p : Nat → Bool) : ∀ (l : List Pc), firstAt p l < 0 → ∀ z ∈ l, p z.r = false
  | [], _, z, hz => by simp at hz
  | x :: l, h, z, hz => by
    cases hp : p x.r
    · simp only [firstAt, hp, Bool.false_eq_true, if_false] at h
      rcases List.mem_cons.1 hz with rfl | hz
      · exact hp
      · exact first_some p l h z hz
    · simp only [firstAt, hp, if_true] at h; omega
/-- a part has no code point that satisfies the test -/
theorem part_first (p : Nat → Bool) (s : ByteArray) (f : ByteArray) (h : f ∈ fieldsP p s) : f.size ≠ 0 ∧ firstAt p (pcs 0 f.data.toList) = -1 ∧ ∃ a b, a < b ∧ b ≤ s.size ∧ f = s.extract a b := by
  obtain ⟨x, hx, rfl⟩ := List.mem_map.1 h
  obtain ⟨h1, h2, h3, h4⟩ := spans_part p s x hx
  refine ⟨?_, ?_, x.1, x.2, h1, h2, rfl⟩
  · intro e; apply h3
    have hl := len_data (cut s x)
    rw [e] at hl
    rw [List.length_eq_zero_iff.1 hl, pcs_nil]
  · apply first_none
    intro z hz
    have hm : z.r ∈ (pcs 0 (cut s x).data.toList).map (fun x => x.r) := List.mem_map.2 ⟨z, hz, rfl⟩
    rw [pcs_move _ 0 x.1 _ (Nat.le_refl _)] at hm
    obtain ⟨u, hu, e⟩ := List.mem_map.1 hm
    rw [← e]; exact h4 u hu
/-- there is no part just if all code points satisfy the test -/
theorem spans_none (p : Nat → Bool) (n : Nat) : ∀ (ps : List Pc), spans p n none ps = [] ↔ ∀ z ∈ ps, p z.r = true
  | [] => by simp [spans]
  | y :: ps => by
    cases hp : p y.r
    · simp only [spans, hp, Bool.false_eq_true, if_false]
      constructor
      · intro h
        exfalso
        have : ∀ (ps : List Pc) (a : Nat), spans p n (some a) ps ≠ [] := by
          intro ps
          induction ps with
          | nil => intro a; simp [spans]
          | cons z ps ih => intro a; simp only [spans]; split <;> simp [ih]
        exact this _ _ h
      · intro h; have := h y (by simp); rw [hp] at this; cases this
    · simp only [spans, hp, if_true, spans_none p n ps, List.mem_cons, forall_eq_or_imp, true_and]
theorem parts_none (p : Nat → Bool) (s : ByteArray) : fieldsP p s = [] ↔ firstAt (fun x => !p x) (pcs 0 s.data.toList) < 0 := by
  unfold fieldsP
  rw [List.map_eq_nil_iff, spans_none]
  constructor
  · intro h; rw [first_none _ _ (fun z hz => by simp [h z hz])]; omega
  · intro h z hz; have := first_some _ _ h z hz; simpa using this

/-! from behind -/
/-- a byte that begins a code point is the first one of a piece -/
theorem pcs_starts : ∀ (n pos : Nat) (l : List UInt8) (k : Nat), l.length ≤ n → k < l.length → (l.getD k 0).toNat / 64 ≠ 2 → ∃ A y R, pcs pos l = A ++ y :: R ∧ y.at_ = pos + k
  | 0, pos, l, k, h, hk, hb => by omega
  | n + 1, pos, l, k, h, hk, hb => by
    have hl : l ≠ [] := fun e => by subst e; simp at hk
    have h1 := dL_pos l
    rw [pcs_cons pos l hl]
    by_cases h0 : k = 0
    · subst h0; exact ⟨[], _, _, rfl, rfl⟩
    · have hge : (Lib.decodeL l).2 ≤ k := by
        have hs := Lib.decodeN_shape l.length (l.getD 0 0).toNat (l.getD 1 0).toNat (l.getD 2 0).toNat (l.getD 3 0).toNat
        rw [← Lib.decodeL_N] at hs
        rcases hs with ⟨_, e⟩ | ⟨_, _, c1, _, e⟩ | ⟨_, _, c1, c2, _, _, e⟩ | ⟨_, _, c1, c2, c3, _, _, e⟩ | e
        · rw [e]; simp; omega
        · rw [e]; simp
          rcases Nat.lt_or_ge k 2 with q | q
          · obtain rfl : k = 1 := by omega
            exact absurd c1 hb
          · exact q
        · rw [e]; simp
          rcases Nat.lt_or_ge k 3 with q | q
          · rcases (by omega : k = 1 ∨ k = 2) with rfl | rfl
            · exact absurd c1 hb
            · exact absurd c2 hb
          · exact q
        · rw [e]; simp
          rcases Nat.lt_or_ge k 4 with q | q
          · rcases (by omega : k = 1 ∨ k = 2 ∨ k = 3) with rfl | rfl | rfl
            · exact absurd c1 hb
            · exact absurd c2 hb
            · exact absurd c3 hb
          · exact q
        · rw [e]; simp; omega
      obtain ⟨A, y, R, e, ey⟩ := pcs_starts n (pos + (Lib.decodeL l).2) (l.drop (Lib.decodeL l).2) (k - (Lib.decodeL l).2) (by rw [List.length_drop]; omega) (by rw [List.length_drop]; omega) (by
        rw [Lib.getD_dropU, show (Lib.decodeL l).2 + (k - (Lib.decodeL l).2) = k by omega]; exact hb)
      exact ⟨_ :: A, y, R, by rw [e]; rfl, by omega⟩
/-- the last piece goes up to the end -/
theorem pcs_last {l : List UInt8} {A : List Pc} {y : Pc} (h : pcs 0 l = A ++ [y]) : y.at_ + y.size = l.length ∧ Lib.decodeL (l.drop y.at_) = (y.r, y.size) ∧ y.ok = okD (y.r, y.size) := by
  obtain ⟨_, k1⟩ := pcs_from A 0 l y [] h
  rw [Nat.sub_zero] at k1
  have hne : l.drop y.at_ ≠ [] := fun e => by rw [e, pcs_nil] at k1; cases k1
  rw [pcs_cons _ _ hne] at k1
  simp only [List.cons.injEq] at k1
  obtain ⟨k2, k3⟩ := k1
  have hr : y.r = (Lib.decodeL (l.drop y.at_)).1 := by rw [← k2]
  have hs : y.size = (Lib.decodeL (l.drop y.at_)).2 := by rw [← k2]
  have ho : y.ok = okD (Lib.decodeL (l.drop y.at_)) := by rw [← k2]
  have hd : (l.drop y.at_).drop (Lib.decodeL (l.drop y.at_)).2 = [] := by
    cases hq : (l.drop y.at_).drop (Lib.decodeL (l.drop y.at_)).2 with
    | nil => rfl
    | cons b t => rw [hq, pcs_cons _ _ (by simp)] at k3; cases k3
  have hle := dL_le _ hne
  rw [List.drop_eq_nil_iff] at hd
  rw [← hs] at hd hle
  rw [List.length_drop] at hd hle
  have hlt : y.at_ < l.length := by
    rcases Nat.lt_or_ge y.at_ l.length with q | q
    · exact q
    · exact absurd (List.drop_of_length_le q) hne
  exact ⟨by omega, Prod.ext hr.symm hs.symm, by rw [ho, hr, hs]⟩
theorem runeStart_of {b : UInt8} (h : b.toNat / 64 ≠ 2) : Lib.runeStartB b = true := by unfold Lib.runeStartB; simp [h]
theorem runeStart_not {b : UInt8} (h : b.toNat / 64 = 2) : Lib.runeStartB b = false := by unfold Lib.runeStartB; simp [h]
/-- what is decoded from behind is the last piece -/
theorem last_piece {l : List UInt8} {A : List Pc} {y : Pc} (h : pcs 0 l = A ++ [y]) : Lib.decodeLastL l = (y.r, y.size) := by
  obtain ⟨h1, h2, h3⟩ := pcs_last h
  have hne : l ≠ [] := fun e => by subst e; simp [pcs_nil] at h
  have hpos : 0 < l.length := List.length_pos_iff.2 hne
  generalize hn : l.length = n at *
  have hsh := Lib.decodeN_shape (l.drop y.at_).length ((l.drop y.at_).getD 0 0).toNat ((l.drop y.at_).getD 1 0).toNat ((l.drop y.at_).getD 2 0).toNat ((l.drop y.at_).getD 3 0).toNat
  rw [← Lib.decodeL_N, h2] at hsh
  simp only [Lib.getD_dropU, List.length_drop, hn, Nat.add_zero, Prod.mk.injEq] at hsh
  have big : ∀ (hst : Lib.lastStart l = y.at_) (ha : 128 ≤ (l.getD (n - 1) 0).toNat), Lib.decodeLastL l = (y.r, y.size) := by
    intro hst ha
    unfold Lib.decodeLastL
    rw [if_neg hne, hn, if_neg (by omega)]
    simp only [hst, h2, h1, if_true]
  rcases hsh with ⟨c, er, es⟩ | ⟨c0, c1, c2, _, er, es⟩ | ⟨c0, c1, c2, c3, _, _, er, es⟩ | ⟨c0, c1, c2, c3, c4, _, _, er, es⟩ | ⟨er, es⟩
  · have e : y.at_ = n - 1 := by omega
    unfold Lib.decodeLastL
    rw [if_neg hne, hn, ← e, if_pos c, er, es]
  · have e : y.at_ = n - 2 := by omega
    have e1 : y.at_ + 1 = n - 1 := by omega
    refine big ?_ (by rw [← e1]; omega)
    unfold Lib.lastStart
    simp only [hn]
    rw [if_neg (by omega), ← e, if_pos (runeStart_of (by omega))]
  · have e : y.at_ = n - 3 := by omega
    have e1 : y.at_ + 1 = n - 2 := by omega
    have e2 : y.at_ + 2 = n - 1 := by omega
    refine big ?_ (by rw [← e2]; omega)
    unfold Lib.lastStart
    simp only [hn]
    rw [if_neg (by omega), ← e1, runeStart_not c2, if_neg (by decide), if_neg (by omega), ← e, if_pos (runeStart_of (by omega))]
  · have e : y.at_ = n - 4 := by omega
    have e1 : y.at_ + 1 = n - 3 := by omega
    have e2 : y.at_ + 2 = n - 2 := by omega
    have e3 : y.at_ + 3 = n - 1 := by omega
    refine big ?_ (by rw [← e3]; omega)
    unfold Lib.lastStart
    simp only [hn]
    rw [if_neg (by omega), ← e2, runeStart_not c3, if_neg (by decide), if_neg (by omega), ← e1, runeStart_not c2, if_neg (by decide), if_neg (by omega), ← e, if_pos (runeStart_of (by omega))]
  · have e : y.at_ = n - 1 := by omega
    rw [er, es]
    by_cases ha : (l.getD (n - 1) 0).toNat < 128
    · have hd := h2
      rw [Lib.decodeL_N, Lib.getD_dropU, Nat.add_zero, e, Lib.decodeN_ascii _ _ _ _ _ ha, er, es] at hd
      have hd1 := congrArg Prod.fst hd
      dsimp only at hd1
      omega
    · unfold Lib.decodeLastL
      rw [if_neg hne, hn, if_neg ha]
      simp only
      by_cases hc : Lib.lastStart l + (Lib.decodeL (l.drop (Lib.lastStart l))).2 = n
      · rw [if_pos hc]
        have hst := Lib.lastStart_lt' l hne
        rw [hn] at hst
        by_cases hk : (Lib.decodeL (l.drop (Lib.lastStart l))).2 = 1
        · have : Lib.lastStart l = y.at_ := by omega
          rw [this, h2, er, es]
        · exfalso
          have hs2 := Lib.decodeN_shape (l.drop (Lib.lastStart l)).length ((l.drop (Lib.lastStart l)).getD 0 0).toNat ((l.drop (Lib.lastStart l)).getD 1 0).toNat ((l.drop (Lib.lastStart l)).getD 2 0).toNat ((l.drop (Lib.lastStart l)).getD 3 0).toNat
          rw [← Lib.decodeL_N] at hs2
          have hcont : (l.getD (Lib.lastStart l) 0).toNat / 64 ≠ 2 := by
            simp only [Lib.getD_dropU, Nat.add_zero] at hs2
            rcases hs2 with ⟨c, e⟩ | ⟨c0, _⟩ | ⟨c0, _⟩ | ⟨c0, _⟩ | e
            · rw [e] at hk; simp at hk
            · omega
            · omega
            · omega
            · rw [e] at hk; simp at hk
          obtain ⟨A', y', R, e', ey⟩ := pcs_starts n 0 l (Lib.lastStart l) (by omega) (by omega) hcont
          rw [Nat.zero_add] at ey
          obtain ⟨_, k1⟩ := pcs_from A' 0 l y' R e'
          rw [Nat.sub_zero, ey] at k1
          have hne' : l.drop (Lib.lastStart l) ≠ [] := fun q => by rw [q, pcs_nil] at k1; cases k1
          have hz : l.drop n = [] := List.drop_of_length_le (by omega)
          rw [pcs_cons _ _ hne', List.drop_drop, hc, hz, pcs_nil] at k1
          simp only [List.cons.injEq] at k1
          rw [← k1.2, h] at e'
          have := (List.append_inj' e' rfl).2
          simp only [List.cons.injEq, and_true] at this
          rw [← this] at ey
          omega
      · rw [if_neg hc]; rfl

/-- where the last piece stands that satisfies p; -1 -/
def lastAt (p : Nat → Bool) (ps : List Pc) : Int := firstAt p ps.reverse
theorem lastAt_snoc (p : Nat → Bool) (ps : List Pc) (y : Pc) : lastAt p (ps ++ [y]) = if p y.r then (y.at_ : Int) else lastAt p ps := by
  unfold lastAt; rw [List.reverse_append]; rfl
theorem pcs_snoc_or (l : List UInt8) (h : l ≠ []) : ∃ A y, pcs 0 l = A ++ [y] := by
  rcases List.eq_nil_or_concat (pcs 0 l) with e | ⟨A, y, e⟩
  · rw [pcs_cons 0 l h] at e; cases e
  · exact ⟨A, y, by simpa using e⟩
theorem lastFrom_pcs (p : Nat → Bool) (truth : Bool) (s : ByteArray) : ∀ (f i : Nat), i ≤ f → i ≤ s.size → Lib.lastIdxFuncFrom p truth s f i = lastAt (fun x => p x == truth) (pcs 0 (s.data.toList.take i))
  | 0, i, h, _ => by
    obtain rfl : i = 0 := by omega
    rfl
  | f + 1, i, h, hi => by
    by_cases h0 : 0 < i
    · have hlen : (s.data.toList.take i).length = i := by rw [List.length_take, len_data]; omega
      have hne : s.data.toList.take i ≠ [] := fun e => by rw [e] at hlen; simp at hlen; omega
      obtain ⟨A, y, e⟩ := pcs_snoc_or _ hne
      have hl := last_piece e
      obtain ⟨k1, _, _⟩ := pcs_last e
      rw [hlen] at k1
      have hin := pcs_in _ 0 (s.data.toList.take i) (Nat.le_refl _) y (by rw [e]; simp)
      have ha := pcs_ahead A 0 _ y [] e
      rw [Nat.sub_zero, List.take_take, Nat.min_eq_left (by omega)] at ha
      simp only [Lib.lastIdxFuncFrom, if_pos h0, hl]
      rw [show i - y.size = y.at_ by omega, e, lastAt_snoc, lastFrom_pcs p truth s f y.at_ (by omega) (by omega), ha]
      by_cases q : p y.r = truth
      · rw [if_pos q, if_pos (by simp [q])]
      · rw [if_neg q, if_neg (by simp [q])]
    · obtain rfl : i = 0 := by omega
      rw [Lib.lastIdxFuncFrom_zero]; rfl
theorem lastIdx_pcs (p : Nat → Bool) (truth : Bool) (s : ByteArray) : Lib.lastIdxFunc p truth s = lastAt (fun x => p x == truth) (pcs 0 s.data.toList) := by
  unfold Lib.lastIdxFunc; rw [lastFrom_pcs p truth s s.size s.size (Nat.le_refl _) (Nat.le_refl _), List.take_of_length_le (by rw [len_data]; exact Nat.le_refl _)]
theorem last_congr {p q : Nat → Bool} (h : ∀ x, p x = q x) (l : List Pc) : lastAt p l = lastAt q l := first_congr h _
theorem lastIdx_true (p : Nat → Bool) (s : ByteArray) : Lib.lastIdxFunc p true s = lastAt p (pcs 0 s.data.toList) := by
  rw [lastIdx_pcs]; exact last_congr (fun x => by cases p x <;> rfl) _
theorem lastIdx_false (p : Nat → Bool) (s : ByteArray) : Lib.lastIdxFunc p false s = lastAt (fun x => !p x) (pcs 0 s.data.toList) := by
  rw [lastIdx_pcs]; exact last_congr (fun x => by cases p x <;> rfl) _
/-- where the pieces at the end that satisfy p begin -/
def endP (p : Nat → Bool) : List Pc → Nat
  | [] => 0
  | y :: r => if p y.r then endP p r else y.at_ + y.size
def trimR (p : Nat → Bool) (s : ByteArray) : ByteArray := s.extract 0 (endP p (pcs 0 s.data.toList).reverse)
theorem endP_last (p : Nat → Bool) : ∀ (ps : List Pc), endP p ps = 0 ∧ firstAt (fun x => !p x) ps = -1 ∨ ∃ y ∈ ps, firstAt (fun x => !p x) ps = (y.at_ : Int) ∧ endP p ps = y.at_ + y.size
  | [] => .inl ⟨rfl, rfl⟩
  | y :: r => by
    cases hp : p y.r
    · right; exact ⟨y, by simp, by simp [firstAt, hp], by simp [endP, hp]⟩
    · rcases endP_last p r with ⟨h1, h2⟩ | ⟨z, hz, h1, h2⟩
      · left; exact ⟨by simp [endP, hp, h1], by simp [firstAt, hp, h2]⟩
      · right; exact ⟨z, by simp [hz], by simp [firstAt, hp, h1], by simp [endP, hp, h2]⟩
theorem trimRight_is (p : Nat → Bool) (s : ByteArray) : Lib.trimRightF p s = trimR p s := by
  unfold Lib.trimRightF trimR
  congr 1
  unfold Lib.rightEndF
  rw [lastIdx_false]
  unfold lastAt
  rcases endP_last p (pcs 0 s.data.toList).reverse with ⟨h1, h2⟩ | ⟨y, hy, h1, h2⟩
  · rw [h1, h2]; rfl
  · rw [h1, h2, if_pos (by omega), Int.toNat_natCast]
    congr 1
    rw [List.mem_reverse] at hy
    obtain ⟨A, R, e⟩ := List.append_of_mem hy
    obtain ⟨_, k1⟩ := pcs_from A 0 _ y R e
    rw [Nat.sub_zero] at k1
    have hne : s.data.toList.drop y.at_ ≠ [] := fun q => by rw [q, pcs_nil] at k1; cases k1
    rw [pcs_cons _ _ hne] at k1
    simp only [List.cons.injEq] at k1
    have hx : (s.extract y.at_ s.size).data.toList = s.data.toList.drop y.at_ := by
      rw [Lib.extract_data, List.take_of_length_le (by rw [List.length_drop, len_data]; omega)]
    have hsz : (s.extract y.at_ s.size).size ≠ 0 := by
      rw [← len_data, hx]; intro q; exact hne (List.length_eq_zero_iff.1 q)
    unfold Lib.decodeGoB
    rw [if_neg hsz, decode_drop, List.drop_zero, hx]
    exact congrArg Pc.size k1.1
end Go.Proofs.YtlgibcphfmjddaaDoor
