/-
  Plain laws of texts as lists of chunks: each code point with the bytes that it has. What is put together of chunks that stand one behind the other has just these chunks. No condition.
-/
import Derived.Test.YtlgibcphfmjddaaDoorPl
namespace Go.Proofs.YtlgibcphfmjddaaDoor
set_option linter.unusedVariables false

/-- a code point and its bytes -/
abbrev Ch := Nat × List UInt8
/-- the bytes of chunks, one behind the other -/
def cat (cs : List Ch) : List UInt8 := cs.flatMap (·.2)
theorem cat_nil : cat [] = [] := rfl
theorem cat_cons (c : Ch) (cs : List Ch) : cat (c :: cs) = c.2 ++ cat cs := by simp [cat]
theorem cat_append (a b : List Ch) : cat (a ++ b) = cat a ++ cat b := by simp [cat]
def chsF : Nat → List UInt8 → List Ch
  | 0, _ => []
  | f + 1, l => if l = [] then [] else ((Lib.decodeL l).1, l.take (Lib.decodeL l).2) :: chsF f (l.drop (Lib.decodeL l).2)
/-- the chunks of a text -/
def chs (l : List UInt8) : List Ch := chsF l.length l
theorem chsF_more : ∀ (f g : Nat) (l : List UInt8), l.length ≤ f → l.length ≤ g → chsF f l = chsF g l
  | 0, g, l, hf, hg => by
    have : l = [] := List.length_eq_zero_iff.1 (by omega)
    subst this
    cases g <;> simp [chsF]
  | f + 1, 0, l, hf, hg => by
    have : l = [] := List.length_eq_zero_iff.1 (by omega)
    subst this
    simp [chsF]
  | f + 1, g + 1, l, hf, hg => by
    simp only [chsF]
    split
    · rfl
    · rename_i hne
      have h1 := dL_pos l
      have h2 : 0 < l.length := List.length_pos_iff.2 hne
      rw [chsF_more f g _ (by rw [List.length_drop]; omega) (by rw [List.length_drop]; omega)]
theorem chs_nil : chs [] = [] := rfl
theorem chs_cons (l : List UInt8) (h : l ≠ []) : chs l = ((Lib.decodeL l).1, l.take (Lib.decodeL l).2) :: chs (l.drop (Lib.decodeL l).2) := by
  unfold chs
  have h2 : 0 < l.length := List.length_pos_iff.2 h
  have h1 := dL_pos l
  obtain ⟨n, hn⟩ : ∃ n, l.length = n + 1 := ⟨l.length - 1, by omega⟩
  rw [hn]
  simp only [chsF, if_neg h]
  rw [chsF_more n _ _ (by rw [List.length_drop]; omega) (Nat.le_refl _)]
theorem chs_eq_nil {l : List UInt8} : chs l = [] ↔ l = [] := by
  constructor
  · intro h
    by_cases hl : l = []
    · exact hl
    · rw [chs_cons l hl] at h; cases h
  · intro h; subst h; rfl
/-- induction along the chunks -/
theorem chs_ind {motive : List UInt8 → Prop} (h0 : motive []) (h1 : ∀ l, l ≠ [] → motive (l.drop (Lib.decodeL l).2) → motive l) : ∀ l, motive l := by
  have : ∀ n l, l.length ≤ n → motive l := by
    intro n
    induction n with
    | zero => intro l h; rw [List.length_eq_zero_iff.1 (Nat.le_zero.1 h)]; exact h0
    | succ n ih =>
      intro l h
      by_cases hl : l = []
      · rw [hl]; exact h0
      · have h2 := dL_pos l
        have h3 : 0 < l.length := List.length_pos_iff.2 hl
        exact h1 l hl (ih _ (by rw [List.length_drop]; omega))
  exact fun l => this l.length l (Nat.le_refl _)
theorem cat_chs : ∀ l, cat (chs l) = l := by
  refine chs_ind rfl ?_
  intro l hl ih
  rw [chs_cons l hl, cat_cons, ih, List.take_append_drop]
/-- a chunk is decoded of its bytes, whatever stands behind -/
theorem dL_chunk (l r : List UInt8) (hl : l ≠ []) : Lib.decodeL (l.take (Lib.decodeL l).2) = Lib.decodeL l := dL_take l _ (Nat.le_refl _)
theorem chs_suffix : ∀ (l : List UInt8) (A B : List Ch), chs l = A ++ B → chs (cat B) = B := by
  refine chs_ind ?_ ?_
  · intro A B h
    rw [chs_nil] at h
    obtain ⟨rfl, rfl⟩ := List.nil_eq_append_iff.1 h
    rfl
  · intro l hl ih A B h
    cases A with
    | nil => rw [List.nil_append] at h; rw [← h, cat_chs, h]
    | cons a A =>
      rw [chs_cons l hl] at h
      simp only [List.cons_append, List.cons.injEq] at h
      exact ih A B h.2
theorem chs_prefix : ∀ (l : List UInt8) (A B : List Ch), chs l = A ++ B → chs (cat A) = A := by
  refine chs_ind ?_ ?_
  · intro A B h
    rw [chs_nil] at h
    obtain ⟨rfl, rfl⟩ := List.nil_eq_append_iff.1 h
    rfl
  · intro l hl ih A B h
    cases A with
    | nil => rfl
    | cons a A =>
      have h' := h
      rw [chs_cons l hl] at h
      simp only [List.cons_append, List.cons.injEq] at h
      have i1 := ih A B h.2
      have h1 := dL_pos l
      have hle := dL_le l hl
      have hcat : l = cat (a :: A) ++ cat B := by rw [← cat_append, ← cat_chs l, h']
      have ha : a.2 = l.take (Lib.decodeL l).2 := by rw [← h.1]
      have hla : a.2.length = (Lib.decodeL l).2 := by rw [ha, List.length_take]; omega
      have hpre : cat (a :: A) = l.take (cat (a :: A)).length := by
        conv => rhs; rw [hcat]
        simp
      have hlen : (Lib.decodeL l).2 ≤ (cat (a :: A)).length := by rw [cat_cons, List.length_append, hla]; omega
      have ht := dL_take l (cat (a :: A)).length hlen
      rw [← hpre] at ht
      have hne : cat (a :: A) ≠ [] := fun e => by rw [e] at hlen; simp at hlen; omega
      rw [chs_cons _ hne, ht]
      have hd : (cat (a :: A)).drop (Lib.decodeL l).2 = cat A := by rw [cat_cons, ← hla, List.drop_left]
      have htk : (cat (a :: A)).take (Lib.decodeL l).2 = a.2 := by rw [cat_cons, ← hla, List.take_left]
      rw [hd, htk, i1, ← h.1]
theorem chs_mid (l : List UInt8) (A M B : List Ch) (h : chs l = A ++ M ++ B) : chs (cat M) = M := by
  have h1 := chs_prefix l (A ++ M) B h
  exact chs_suffix _ A M h1
/-- a chunk of a text is decoded as it was -/
theorem chs_mem {l : List UInt8} {c : Ch} (h : c ∈ chs l) : chs c.2 = [c] := by
  obtain ⟨A, B, e⟩ := List.append_of_mem h
  have := chs_mid l A [c] B (by rw [e]; simp)
  simpa [cat] using this
theorem chs_ne {l : List UInt8} {c : Ch} (h : c ∈ chs l) : c.2 ≠ [] := by
  intro e
  have := chs_mem h
  rw [e, chs_nil] at this; cases this
theorem cat_eq_nil {l : List UInt8} {A M B : List Ch} (h : chs l = A ++ M ++ B) : cat M = [] ↔ M = [] := by
  constructor
  · intro e
    have := chs_mid l A M B h
    rw [e, chs_nil] at this; exact this.symm
  · intro e; rw [e]; rfl

/-- chunks as pieces, from a place on -/
def lay : Nat → List Ch → List Pc
  | _, [] => []
  | pos, c :: r => ⟨pos, c.2.length, c.1, okD (c.1, c.2.length)⟩ :: lay (pos + c.2.length) r
theorem pcs_lay : ∀ (l : List UInt8) (pos : Nat), pcs pos l = lay pos (chs l) := by
  refine chs_ind ?_ ?_
  · intro pos; rfl
  · intro l hl ih pos
    have hle := dL_le l hl
    have hlen : (l.take (Lib.decodeL l).2).length = (Lib.decodeL l).2 := by rw [List.length_take]; omega
    rw [pcs_cons pos l hl, chs_cons l hl]
    simp only [lay, hlen]
    rw [ih]
theorem lay_append : ∀ (A B : List Ch) (pos : Nat), lay pos (A ++ B) = lay pos A ++ lay (pos + (cat A).length) B
  | [], B, pos => by simp [lay, cat]
  | a :: A, B, pos => by
    simp only [List.cons_append, lay, cat_cons, List.length_append]
    rw [lay_append A B, Nat.add_assoc]
theorem lay_map_r : ∀ (A : List Ch) (pos : Nat), (lay pos A).map (fun x => x.r) = A.map (·.1)
  | [], _ => rfl
  | a :: A, pos => by simp only [lay, List.map_cons]; rw [lay_map_r A]
theorem lay_length : ∀ (A : List Ch) (pos : Nat), (lay pos A).length = A.length
  | [], _ => rfl
  | a :: A, pos => by simp only [lay, List.length_cons]; rw [lay_length A]

/-- where the first chunk stands that satisfies p -/
theorem first_lay (p : Nat → Bool) : ∀ (cs : List Ch) (pos : Nat), firstAt p (lay pos cs) = if cs.all (fun c => !p c.1) then -1 else ((pos + (cat (cs.takeWhile (fun c => !p c.1))).length : Nat) : Int)
  | [], pos => rfl
  | c :: cs, pos => by
    simp only [lay, firstAt, List.all_cons, List.takeWhile_cons]
    cases hp : p c.1
    · simp only [Bool.false_eq_true, if_false, Bool.not_false, Bool.true_and, if_true, cat_cons, List.length_append]
      rw [first_lay p cs, Nat.add_assoc]
    · simp [cat]
/-- chunks from the first one on that does not satisfy p -/
def ldw (p : Nat → Bool) (cs : List Ch) : List Ch := cs.dropWhile (fun c => p c.1)
/-- chunks up to the last one that does not satisfy p -/
def rdw (p : Nat → Bool) (cs : List Ch) : List Ch := (cs.reverse.dropWhile (fun c => p c.1)).reverse
theorem ldw_split (p : Nat → Bool) (cs : List Ch) : cs = cs.takeWhile (fun c => p c.1) ++ ldw p cs := (List.takeWhile_append_dropWhile).symm
theorem rdw_split (p : Nat → Bool) (cs : List Ch) : cs = rdw p cs ++ (cs.reverse.takeWhile (fun c => p c.1)).reverse := by
  unfold rdw
  rw [← List.reverse_append, List.takeWhile_append_dropWhile, List.reverse_reverse]
theorem rdw_snoc (p : Nat → Bool) (cs : List Ch) (c : Ch) : rdw p (cs ++ [c]) = if p c.1 then rdw p cs else cs ++ [c] := by
  unfold rdw
  rw [List.reverse_append]
  simp only [List.reverse_cons, List.reverse_nil, List.nil_append, List.cons_append, List.dropWhile_cons]
  split <;> simp
theorem chs_ldw (p : Nat → Bool) (l : List UInt8) : chs (cat (ldw p (chs l))) = ldw p (chs l) := chs_suffix l _ _ (ldw_split p (chs l))
theorem chs_rdw (p : Nat → Bool) (l : List UInt8) : chs (cat (rdw p (chs l))) = rdw p (chs l) := chs_prefix l _ _ (rdw_split p (chs l))
theorem all_takeWhile {p : Nat → Bool} {cs : List Ch} (h : cs.all (fun c => p c.1) = true) : cs.takeWhile (fun c => p c.1) = cs ∧ ldw p cs = [] := by
  unfold ldw
  induction cs with
  | nil => simp
  | cons c cs ih =>
    simp only [List.all_cons, Bool.and_eq_true] at h
    obtain ⟨i1, i2⟩ := ih h.2
    simp [List.takeWhile_cons, List.dropWhile_cons, h.1, i1, i2]
theorem bytes_ext {a : ByteArray} {l : List UInt8} (h : a.data.toList = l) : a = ⟨l.toArray⟩ := by
  cases a; simp at h; subst h; simp
theorem drop_pre {l a b : List UInt8} (h : l = a ++ b) : l.drop a.length = b := by rw [h, List.drop_left]
theorem take_pre {l a b : List UInt8} (h : l = a ++ b) : l.take a.length = a := by rw [h, List.take_left]
theorem trimL_ch (p : Nat → Bool) (s : ByteArray) : (trimL p s).data.toList = cat (ldw p (chs s.data.toList)) := by
  unfold trimL
  rw [pcs_lay, first_lay]
  simp only [Bool.not_not]
  have hsp := ldw_split p (chs s.data.toList)
  have hcat : s.data.toList = cat ((chs s.data.toList).takeWhile (fun c => p c.1)) ++ cat (ldw p (chs s.data.toList)) := by
    rw [← cat_append, ← hsp, cat_chs]
  by_cases h : (chs s.data.toList).all (fun c => p c.1) = true
  · rw [if_pos h, if_pos (by omega), (all_takeWhile h).2]; rfl
  · rw [if_neg h, if_neg (by omega), Int.toNat_natCast, Nat.zero_add, Lib.extract_data]
    have hlen := congrArg List.length hcat
    rw [List.length_append, len_data] at hlen
    rw [drop_pre hcat, List.take_of_length_le (by omega)]
theorem endP_ch (p : Nat → Bool) (cs : List Ch) : endP p (lay 0 cs).reverse = (cat (rdw p cs)).length := by
  have key : ∀ r : List Ch, endP p (lay 0 r.reverse).reverse = (cat (rdw p r.reverse)).length := by
    intro r
    induction r with
    | nil => rfl
    | cons c r ih =>
      rw [List.reverse_cons, lay_append, List.reverse_append, rdw_snoc]
      simp only [lay, List.reverse_cons, List.reverse_nil, List.nil_append, List.cons_append, endP]
      split
      · exact ih
      · rw [cat_append, List.length_append]; simp [cat]
  have := key cs.reverse
  rwa [List.reverse_reverse] at this
theorem trimR_ch (p : Nat → Bool) (s : ByteArray) : (trimR p s).data.toList = cat (rdw p (chs s.data.toList)) := by
  unfold trimR
  rw [pcs_lay, endP_ch p _, Lib.extract_data, List.drop_zero, Nat.sub_zero]
  have hcat : s.data.toList = cat (rdw p (chs s.data.toList)) ++ cat ((chs s.data.toList).reverse.takeWhile (fun c => p c.1)).reverse := by
    rw [← cat_append, ← rdw_split, cat_chs]
  exact take_pre hcat

/-- the runs of chunks of which none satisfies p -/
def runsC (p : Nat → Bool) : List Ch → List Ch → List (List Ch)
  | cur, [] => if cur = [] then [] else [cur]
  | cur, c :: r => if p c.1 then (if cur = [] then [] else [cur]) ++ runsC p [] r else runsC p (cur ++ [c]) r
theorem spans_ch (p : Nat → Bool) (l : List UInt8) : ∀ (cs : List Ch) (pre : List UInt8) (cur : List Ch), (∀ c ∈ cs, c.2 ≠ []) → (cur ≠ [] → cat cur ≠ []) → l = pre ++ cat cur ++ cat cs →
    (spans p l.length (if cur = [] then none else some pre.length) (lay (pre.length + (cat cur).length) cs)).map (fun x => (l.drop x.1).take (x.2 - x.1)) = (runsC p cur cs).map cat
  | [], pre, cur, hne, hcur, hl => by
    by_cases h : cur = []
    · subst h; simp [spans, lay, runsC]
    · simp only [h, if_false, spans, lay, runsC, List.map_cons, List.map_nil]
      have hl' : l = pre ++ cat cur := by rw [hl]; simp [cat]
      rw [drop_pre hl', List.take_of_length_le (by rw [hl', List.length_append]; omega)]
  | c :: cs, pre, cur, hne, hcur, hl => by
    have hc := hne c (by simp)
    by_cases h : cur = []
    · subst h
      simp only [if_true, spans, lay, runsC]
      cases hp : p c.1
      · simp only [Bool.false_eq_true, if_false]
        have ih := spans_ch p l cs pre [c] (fun d hd => hne d (by simp [hd])) (fun _ => by simpa [cat] using hc) (by rw [hl]; simp [cat])
        simp only [List.nil_append]
        rw [← ih]
        simp [cat]
      · simp only [if_true, List.nil_append]
        have ih := spans_ch p l cs (pre ++ c.2) [] (fun d hd => hne d (by simp [hd])) (fun q => absurd rfl q) (by rw [hl]; simp [cat])
        rw [← ih]
        simp [cat]
    · simp only [h, if_false, spans, lay, runsC]
      cases hp : p c.1
      · simp only [Bool.false_eq_true, if_false]
        have ih := spans_ch p l cs pre (cur ++ [c]) (fun d hd => hne d (by simp [hd])) (fun _ => by rw [cat_append]; simp [cat]; intro _; exact hc) (by rw [hl]; simp [cat])
        have hq : cur ++ [c] ≠ [] := by simp
        rw [if_neg hq] at ih
        rw [← ih, cat_append]
        simp [cat, Nat.add_assoc]
      · simp only [if_true, List.map_cons, List.cons_append, List.nil_append]
        have ih := spans_ch p l cs (pre ++ cat cur ++ c.2) [] (fun d hd => hne d (by simp [hd])) (fun q => absurd rfl q) (by rw [hl]; simp [cat])
        rw [← ih]
        congr 1
        · rw [hl]; simp
        · simp [cat, Nat.add_assoc]
theorem fields_ch (p : Nat → Bool) (s : ByteArray) : (fieldsP p s).map (·.data.toList) = (runsC p [] (chs s.data.toList)).map cat := by
  have h := spans_ch p s.data.toList (chs s.data.toList) [] [] (fun c hc => chs_ne hc) (fun q => absurd rfl q) (by rw [cat_chs]; simp [cat])
  rw [← h]
  unfold fieldsP
  rw [pcs_lay, List.map_map, len_data]
  simp only [if_true, List.length_nil, cat_nil, Nat.add_zero]
  apply List.map_congr_left
  intro x _
  exact cut_list s x
end Go.Proofs.YtlgibcphfmjddaaDoor
