/-
  The contract of the reference's runs: the longest parts without a code point that satisfies a test. Conditions: the text's length is at most 2^40; the test's runes lie in memory.
-/
import Derived.Test.YtehjbmijbgonkaaFirst
import Derived.Test.YtehjbmijbgonkaaStrs
namespace Go.Proofs.Ytehjbmijbgonkaa
open Go.RowKit
set_option linter.unusedVariables false

/-- from where to where the parts go: n is the text's length, st where a part has begun -/
def spans (p : Nat → Bool) (n : Nat) : Option Nat → List Pc → List (Nat × Nat)
  | none, [] => []
  | some a, [] => [(a, n)]
  | none, x :: l => if p x.r then spans p n none l else spans p n (some x.at_) l
  | some a, x :: l => if p x.r then (a, x.at_) :: spans p n none l else spans p n (some a) l
def cut (s : ByteArray) (x : Nat × Nat) : ByteArray := s.extract x.1 x.2
/-- the parts of a text -/
def fieldsP (p : Nat → Bool) (s : ByteArray) : List ByteArray := (spans p s.size none (pcs 0 s.data.toList)).map (cut s)

/-- every piece lies within the text -/
theorem pcs_in : ∀ (n pos : Nat) (l : List UInt8), l.length ≤ n → ∀ x ∈ pcs pos l, pos ≤ x.at_ ∧ 1 ≤ x.size ∧ x.at_ + x.size ≤ pos + l.length
  | 0, pos, l, h, x, hx => by
    have : l = [] := List.length_eq_zero_iff.1 (by omega)
    subst this; simp [pcs_nil] at hx
  | n + 1, pos, l, h, x, hx => by
    by_cases hl : l = []
    · subst hl; simp [pcs_nil] at hx
    · rw [pcs_cons pos l hl] at hx
      have h1 := dL_pos l
      have h2 := dL_le l hl
      rcases List.mem_cons.1 hx with rfl | hx
      · simp; omega
      · have := pcs_in n _ _ (by rw [List.length_drop]; omega) x hx
        rw [List.length_drop] at this; omega
/-- the pieces stand one behind the other -/
theorem pcs_sorted : ∀ (n pos : Nat) (l : List UInt8), l.length ≤ n → ∀ i j (hi : i < (pcs pos l).length) (hj : j < (pcs pos l).length), i ≤ j → (pcs pos l)[i].at_ ≤ (pcs pos l)[j].at_
  | 0, pos, l, h, i, j, hi, hj, hij => by
    have : l = [] := List.length_eq_zero_iff.1 (by omega)
    subst this; simp [pcs_nil] at hi
  | n + 1, pos, l, h, i, j, hi, hj, hij => by
    by_cases hl : l = []
    · subst hl; simp [pcs_nil] at hi
    · have h1 := dL_pos l
      have h2 := dL_le l hl
      have hin := pcs_in (n + 1) pos l h
      have e := pcs_cons pos l hl
      cases j with
      | zero => obtain rfl : i = 0 := by omega
                exact Nat.le_refl _
      | succ j =>
        cases i with
        | zero =>
          have := (hin _ (List.getElem_mem hj)).1
          have e0 : (pcs pos l)[0].at_ = pos := by simp only [e, List.getElem_cons_zero]
          omega
        | succ i =>
          have hl2 : (pcs pos l).length = (pcs (pos + (Lib.decodeL l).2) (l.drop (Lib.decodeL l).2)).length + 1 := by rw [e]; simp
          have := pcs_sorted n (pos + (Lib.decodeL l).2) (l.drop (Lib.decodeL l).2) (by rw [List.length_drop]; omega) i j (by omega) (by omega) (by omega)
          have ei : (pcs pos l)[i + 1].at_ = ((pcs (pos + (Lib.decodeL l).2) (l.drop (Lib.decodeL l).2))[i]'(by omega)).at_ := by simp only [e, List.getElem_cons_succ]
          have ej : (pcs pos l)[j + 1].at_ = ((pcs (pos + (Lib.decodeL l).2) (l.drop (Lib.decodeL l).2))[j]'(by omega)).at_ := by simp only [e, List.getElem_cons_succ]
          omega
/-- where the loop stands: k pieces are through, st is open, done has been told -/
def RunRel (p : Nat → Bool) (n : Nat) (ps : List Pc) (k : Nat) (st : Option Nat) (done : List (Nat × Nat)) : Prop :=
  spans p n none ps = done ++ spans p n st (ps.drop k) ∧ done.length ≤ k ∧ (∀ a, st = some a → a ≤ n ∧ ∀ j (hj : j < ps.length), k ≤ j → a ≤ ps[j].at_)
theorem run_start (p : Nat → Bool) (n : Nat) (ps : List Pc) : RunRel p n ps 0 none [] := ⟨rfl, Nat.le_refl _, fun a h => by cases h⟩
section
variable {p : Nat → Bool} {n : Nat} {ps : List Pc} {k : Nat} {done : List (Nat × Nat)}
theorem run_out_hit (h : RunRel p n ps k none done) (hk : k < ps.length) (hp : p ps[k].r = true) : RunRel p n ps (k + 1) none done := by
  obtain ⟨h1, h2, h3⟩ := h
  rw [List.drop_eq_getElem_cons hk] at h1
  simp only [spans, hp, if_true] at h1
  exact ⟨h1, by omega, fun a h => by cases h⟩
theorem run_out_miss (h : RunRel p n ps k none done) (hk : k < ps.length) (hp : p ps[k].r = false) (hb : ps[k].at_ ≤ n) (hsort : ∀ i j (hi : i < ps.length) (hj : j < ps.length), i ≤ j → ps[i].at_ ≤ ps[j].at_) : RunRel p n ps (k + 1) (some ps[k].at_) done := by
  obtain ⟨h1, h2, h3⟩ := h
  rw [List.drop_eq_getElem_cons hk] at h1
  simp only [spans, hp, Bool.false_eq_true, if_false] at h1
  exact ⟨h1, by omega, fun a h => by cases h; exact ⟨hb, fun j hj hkj => hsort k j hk hj (by omega)⟩⟩
theorem run_in_hit {a : Nat} (h : RunRel p n ps k (some a) done) (hk : k < ps.length) (hp : p ps[k].r = true) : RunRel p n ps (k + 1) none (done ++ [(a, ps[k].at_)]) := by
  obtain ⟨h1, h2, h3⟩ := h
  rw [List.drop_eq_getElem_cons hk] at h1
  simp only [spans, hp, if_true] at h1
  exact ⟨by rw [h1]; simp, by simp; omega, fun a h => by cases h⟩
theorem run_in_miss {a : Nat} (h : RunRel p n ps k (some a) done) (hk : k < ps.length) (hp : p ps[k].r = false) : RunRel p n ps (k + 1) (some a) done := by
  obtain ⟨h1, h2, h3⟩ := h
  rw [List.drop_eq_getElem_cons hk] at h1
  simp only [spans, hp, Bool.false_eq_true, if_false] at h1
  exact ⟨h1, by omega, fun b hb => ⟨(h3 b hb).1, fun j hj hkj => (h3 b hb).2 j hj (by omega)⟩⟩
theorem run_end_none (h : RunRel p n ps ps.length none done) : spans p n none ps = done := by
  have := h.1; rw [List.drop_length] at this; simpa [spans] using this
theorem run_end_some {a : Nat} (h : RunRel p n ps ps.length (some a) done) : spans p n none ps = done ++ [(a, n)] := by
  have := h.1; rw [List.drop_length] at this; simpa [spans] using this
end
/-- where a part has begun, as the reference keeps it -/
def stZ (st : Option Nat) : Int := match st with | none => -1 | some a => a
theorem Try.infoStr : (Try.prog.info? 9).map (fun i => (i.zero, i.size, i.bytes)) = some (some (.string ⟨#[]⟩), 1, 16) := by kernel_rfl
/-- a list of texts in new memory -/
def NewStrs (l : List ByteArray) (w : World) (e : Ending) (w' : World) : Prop :=
  ∃ g c, e = .returned (.slice (some ⟨g, 0, none⟩) l.length c) ∧ OwnStrs w' w.heap.size g l.length c l ∧ Below w.heap.size w w'
theorem str_one (x : ByteArray) : ∀ u ∈ [Value.string x], u.oneCell' = true := by intro u hu; simp at hu; subst hu; rfl
theorem cut_snoc (s : ByteArray) (done : List (Nat × Nat)) (x : Nat × Nat) : strs ((done ++ [x]).map (cut s)) = strs (done.map (cut s)) ++ [.string (cut s x)] := by simp [strs]
theorem own_some {w : World} {base e sz n : Nat} {v : Value} {xs : List Value} (h : w.ownsRow base e sz v n xs) (hv : v ≠ .slice none 0 0) : ∃ g c, v = .slice (some ⟨g, 0, none⟩) n c := by
  rcases h.2 with ⟨rfl, _⟩ | ⟨g, cap', cur, rfl, _⟩
  · exact absurd rfl hv
  · exact ⟨_, _, rfl⟩
end Go.Proofs.Ytehjbmijbgonkaa
