/-
  Plain laws of the parts of a text between chunks that satisfy a test: trimming leaves them; the first and the last one; texts put together. No condition.
-/
import Derived.Test.YteiginpjahmppaaDoorSides
import Derived.Lib.Join
namespace Go.Proofs.YteiginpjahmppaaDoor
set_option linter.unusedVariables false

def ofB (l : List UInt8) : ByteArray := ⟨l.toArray⟩
theorem ofB_data (l : List UInt8) : (ofB l).data.toList = l := by simp [ofB]
theorem ofB_of (s : ByteArray) : ofB s.data.toList = s := by cases s; simp [ofB]
theorem ofB_size (l : List UInt8) : (ofB l).size = l.length := by rw [← len_data, ofB_data]
theorem fields_eq (p : Nat → Bool) (s : ByteArray) : fieldsP p s = (runsC p [] (chs s.data.toList)).map (fun r => ofB (cat r)) := by
  have h := fields_ch p s
  have h2 : ((fieldsP p s).map (·.data.toList)).map ofB = fieldsP p s := by
    rw [List.map_map]
    conv => rhs; rw [← List.map_id (fieldsP p s)]
    apply List.map_congr_left
    intro x _
    exact ofB_of x
  rw [← h2, h, List.map_map]; rfl
section
variable {p : Nat → Bool}
theorem runs_cur : ∀ (cs cur : List Ch), cur ≠ [] → runsC p cur cs = (cur ++ cs.takeWhile (fun c => !p c.1)) :: runsC p [] (cs.dropWhile (fun c => !p c.1))
  | [], cur, h => by simp [runsC, h]
  | c :: r, cur, h => by
    cases hc : p c.1
    · have ih := runs_cur r (cur ++ [c]) (by simp)
      simp only [runsC, hc, Bool.false_eq_true, if_false, List.takeWhile_cons, List.dropWhile_cons, Bool.not_false, if_true]
      rw [ih]
      simp
    · simp [runsC, hc, h]
theorem runs_head {c : Ch} {r : List Ch} (hc : p c.1 = false) : runsC p [] (c :: r) = (c :: r.takeWhile (fun c => !p c.1)) :: runsC p [] (r.dropWhile (fun c => !p c.1)) := by
  have := runs_cur (p := p) r [c] (by simp)
  simp only [runsC, hc, Bool.false_eq_true, if_false, List.nil_append]
  rw [this]; rfl
theorem runs_skip : ∀ {T : List Ch} (cs : List Ch), allP p T → runsC p [] (T ++ cs) = runsC p [] cs
  | [], cs, _ => rfl
  | t :: T, cs, h => by
    simp only [List.cons_append, runsC, h t (by simp), if_true, List.nil_append]
    exact runs_skip cs (fun c hc => h c (by simp [hc]))
theorem runs_all {U : List Ch} (h : allP p U) : runsC p [] U = [] := by
  have := runs_skip (p := p) [] h
  rw [List.append_nil] at this
  rw [this]; rfl
theorem runs_tail {U : List Ch} (h : allP p U) : ∀ (cs cur : List Ch), runsC p cur (cs ++ U) = runsC p cur cs
  | [], cur => by
    cases U with
    | nil => rfl
    | cons u U =>
      simp only [List.nil_append, runsC, h u (by simp), if_true]
      rw [runs_all (fun c hc => h c (by simp [hc])), List.append_nil]
  | c :: cs, cur => by
    simp only [List.cons_append, runsC]
    rw [runs_tail h cs [], runs_tail h cs (cur ++ [c])]
theorem runs_none {cs : List Ch} : runsC p [] cs = [] ↔ allP p cs := by
  constructor
  · intro h
    rcases ldw_form (p := p) cs with ha | ⟨T, c, r, rfl, hT, hc⟩
    · exact ha
    · rw [runs_skip _ hT, runs_head hc] at h; cases h
  · exact runs_all
/-- the last run is at the end -/
theorem runs_end : ∀ (X cur : List Ch) (c : Ch), p c.1 = false → ∃ D x pre, runsC p cur (X ++ [c]) = D ++ [x] ∧ cur ++ X ++ [c] = pre ++ x ∧ x ≠ []
  | [], cur, c, hc => ⟨[], cur ++ [c], [], by simp [runsC, hc], by simp, by simp⟩
  | d :: X, cur, c, hc => by
    cases hd : p d.1
    · obtain ⟨D, x, pre, h1, h2, h3⟩ := runs_end X (cur ++ [d]) c hc
      exact ⟨D, x, pre, by simp [runsC, hd, h1], by rw [← h2]; simp, h3⟩
    · obtain ⟨D, x, pre, h1, h2, h3⟩ := runs_end X [] c hc
      refine ⟨(if cur = [] then [] else [cur]) ++ D, x, cur ++ [d] ++ pre, ?_, ?_, h3⟩
      · simp only [List.cons_append, runsC, hd, if_true, h1, List.append_assoc]
      · have h2' : X ++ [c] = pre ++ x := by simpa using h2
        rw [List.append_assoc, List.cons_append, h2']; simp
/-- of one run alone that goes from end to end nothing is left out -/
theorem runs_single {M : List Ch} (h1 : ∃ c r, M = c :: r ∧ p c.1 = false) (h2 : ∃ r c, M = r ++ [c] ∧ p c.1 = false) {x : List Ch} (h : runsC p [] M = [x]) : x = M := by
  obtain ⟨c, r, rfl, hc⟩ := h1
  rw [runs_head hc] at h
  simp only [List.cons.injEq] at h
  have hall := runs_none.1 h.2
  have hd : r.dropWhile (fun c => !p c.1) = [] := by
    cases hq : r.dropWhile (fun c => !p c.1) with
    | nil => rfl
    | cons d R =>
      exfalso
      obtain ⟨r', e, he, hep⟩ := h2
      have hsp : c :: r = (c :: r.takeWhile (fun c => !p c.1)) ++ (d :: R) := by rw [← hq, List.cons_append, List.takeWhile_append_dropWhile]
      have hm : e ∈ d :: R := by
        have hl : (d :: R).getLast? = some e := by
          have h3 : (c :: r).getLast? = some e := by rw [he]; simp
          rw [hsp, List.getLast?_append] at h3
          cases hg : (d :: R).getLast? with
          | none => simp at hg
          | some y => rw [hg] at h3; simpa using h3
        exact List.mem_of_getLast? hl
      have := hall e (by rw [hq]; exact hm)
      rw [hep] at this; cases this
  rw [← h.1]
  congr 1
  have := List.takeWhile_append_dropWhile (p := fun c : Ch => !p c.1) (l := r)
  rw [hd, List.append_nil] at this
  exact this
end
/-- fields of a text, and of what is left of it when it is trimmed -/
structure FieldFacts (p : Nat → Bool) (s : ByteArray) : Prop where
  same : fieldsP p (trimR p (trimL p s)) = fieldsP p s
  none : (fieldsP p s).length = 0 ↔ (trimR p (trimL p s)).size = 0
  one : ∀ h : (fieldsP p s).length = 1, trimR p (trimL p s) = (fieldsP p s)[0]
  first : ∀ h : 0 < (fieldsP p s).length, Lib.hasPrefix (trimR p (trimL p s)).data.toList (fieldsP p s)[0].data.toList = true
  last : ∀ m (h : (fieldsP p s).length = m + 1), Lib.hasSuffix (trimR p (trimL p s)).data.toList ((fieldsP p s)[m]'(by omega)).data.toList = true
theorem field_facts (p : Nat → Bool) (s : ByteArray) : FieldFacts p s := by
  have hL := trimL_ch p s
  have cL : chs (trimL p s).data.toList = ldw p (chs s.data.toList) := by rw [hL]; exact chs_ldw p _
  have hRL := trimR_ch p (trimL p s)
  have cRL : chs (trimR p (trimL p s)).data.toList = rdw p (ldw p (chs s.data.toList)) := by rw [hRL, ← cL]; exact chs_rdw p _
  rw [cL] at hRL
  have hfs := fields_eq p s
  have hft := fields_eq p (trimR p (trimL p s))
  rw [cRL] at hft
  generalize ht : trimR p (trimL p s) = t at *
  generalize chs s.data.toList = cs at *
  rcases mid_form (p := p) cs with ha | ⟨T, M, U, rfl, hT, hU, hM, hM'⟩
  · rw [ldw_all ha, rdw_nil] at hRL hft
    rw [runs_all ha] at hfs
    have ht0 : t.size = 0 := by rw [← len_data, hRL]; rfl
    have e0 : fieldsP p s = [] := hfs
    refine ⟨by rw [ht, hft, hfs]; rfl, by rw [ht, e0, ht0]; simp, fun h => ?_, fun h => ?_, fun m h => ?_⟩
    all_goals (rw [e0] at h; simp at h)
  · have e1 := mid_ldw (U := U) hT hM
    have e2 : rdw p (M ++ U) = M := by have := mid_rdw (T := []) hU hM'; simpa using this
    rw [e1, e2] at hRL hft
    have hr : runsC p [] (T ++ M ++ U) = runsC p [] M := by rw [List.append_assoc, runs_skip _ hT, runs_tail hU]
    rw [hr] at hfs
    have hcM : cat M ≠ [] := by
      intro e
      rw [hRL, e, chs_nil, e1, e2] at cRL
      obtain ⟨c, r, rfl, _⟩ := hM
      cases cRL
    have ht0 : t.size ≠ 0 := by rw [← len_data, hRL]; intro e; exact hcM (List.length_eq_zero_iff.1 e)
    have hpos : runsC p [] M ≠ [] := by
      obtain ⟨c, r, rfl, hc⟩ := hM
      rw [runs_head hc]; simp
    refine ⟨by rw [ht, hft, hfs], ⟨fun h => ?_, fun h => absurd (by rw [ht] at h; exact h) ht0⟩, fun h => ?_, fun h => ?_, fun m h => ?_⟩
    · rw [hfs, List.length_map, List.length_eq_zero_iff] at h; exact absurd h hpos
    · have h' := h
      rw [hfs, List.length_map] at h'
      obtain ⟨x, hx⟩ := List.length_eq_one_iff.1 h'
      have hxM := runs_single hM hM' hx
      have h0 : (fieldsP p s)[0]'(by omega) = ofB (cat x) := by simp only [hfs, hx, List.map_cons, List.getElem_cons_zero]
      rw [ht]
      refine Eq.trans ?_ h0.symm
      rw [hxM]
      apply ba_eq
      rw [ofB_data, hRL]
    · obtain ⟨c, r, rfl, hc⟩ := hM
      have hh := runs_head (p := p) (r := r) hc
      have h0 : (fieldsP p s)[0]'h = ofB (cat (c :: r.takeWhile (fun c => !p c.1))) := by simp only [hfs, hh, List.map_cons, List.getElem_cons_zero]
      rw [ht, h0, ofB_data, hRL]
      have hsp : c :: r = (c :: r.takeWhile (fun c => !p c.1)) ++ r.dropWhile (fun c => !p c.1) := by rw [List.cons_append, List.takeWhile_append_dropWhile]
      conv => lhs; arg 1; rw [hsp]
      rw [cat_append]
      unfold Lib.hasPrefix
      rw [List.isPrefixOf_iff_prefix]
      exact ⟨_, rfl⟩
    · obtain ⟨r, c, rfl, hc⟩ := hM'
      obtain ⟨D, x, pre, h1, h2, h3⟩ := runs_end (p := p) r [] c hc
      rw [List.nil_append] at h2
      have hlen : D.length = m := by
        rw [hfs, h1, List.length_map, List.length_append] at h
        simpa using h
      have hm : (fieldsP p s)[m]'(by omega) = ofB (cat x) := by
        simp only [hfs, h1, List.map_append, List.map_cons, List.map_nil]
        rw [List.getElem_append_right (by simp; omega)]
        simp [hlen]
      rw [ht, hm, ofB_data, hRL, h2, cat_append]
      unfold Lib.hasSuffix
      rw [List.isSuffixOf_iff_suffix]
      exact ⟨_, rfl⟩

/-- a list of texts, and a text that goes from the first one to the last one -/
structure Ends (L : List ByteArray) (t : ByteArray) : Prop where
  none : L.length = 0 ↔ t.size = 0
  one : ∀ h : L.length = 1, t = L[0]'(by omega)
  first : ∀ h : 0 < L.length, Lib.hasPrefix t.data.toList (L[0]'h).data.toList = true
  last : ∀ m (h : L.length = m + 1), Lib.hasSuffix t.data.toList (L[m]'(by omega)).data.toList = true
theorem field_ends (p : Nat → Bool) (s : ByteArray) : Ends (fieldsP p s) (trimR p (trimL p s)) :=
  ⟨(field_facts p s).none, (field_facts p s).one, (field_facts p s).first, (field_facts p s).last⟩
theorem empty_yes {t : ByteArray} (h : t.size = 0) : t.toList.isEmpty = true := by
  rw [Lib.toList_data, List.isEmpty_iff, ← List.length_eq_zero_iff, len_data]; exact h
theorem empty_no {t : ByteArray} (h : t.size ≠ 0) : t.toList.isEmpty = false := by
  rw [Lib.toList_data]; cases q : t.data.toList
  · rw [← len_data, q] at h; simp at h
  · rfl
theorem trim_le (p : Nat → Bool) (s : ByteArray) : (trimR p (trimL p s)).size ≤ s.size := by
  have h1 : (trimR p (trimL p s)).size ≤ (trimL p s).size := by
    unfold trimR; rw [Lib.size_eq, Lib.extract_data, List.length_take, List.length_drop, ← Lib.size_eq]; omega
  have h2 : (trimL p s).size ≤ s.size := by rw [← trimLeft_is]; exact trimLeftF_size p s
  omega

/-! texts put together -/
/-- what begins with a byte that is none of a sequence's later ones begins anew -/
theorem dL_app (l r : List UInt8) (b : UInt8) (hl : l ≠ []) (hb : b.toNat / 64 ≠ 2) : Lib.decodeL (l ++ b :: r) = Lib.decodeL l := by
  have hpos : 0 < l.length := List.length_pos_iff.2 hl
  have hk : (Lib.decodeL (l ++ b :: r)).2 ≤ l.length := by
    rcases Nat.lt_or_ge l.length (Lib.decodeL (l ++ b :: r)).2 with hlt | hge
    · exfalso
      have hb' : ((l ++ b :: r).getD l.length 0).toNat / 64 ≠ 2 := by simpa [List.getD] using hb
      have hs := Lib.decodeN_shape (l ++ b :: r).length ((l ++ b :: r).getD 0 0).toNat ((l ++ b :: r).getD 1 0).toNat ((l ++ b :: r).getD 2 0).toNat ((l ++ b :: r).getD 3 0).toNat
      rw [← Lib.decodeL_N] at hs
      generalize l.length = n at *
      rcases hs with ⟨_, e⟩ | ⟨_, _, c1, _, e⟩ | ⟨_, _, c1, c2, _, _, e⟩ | ⟨_, _, c1, c2, c3, _, _, e⟩ | e
      · rw [e] at hlt; simp at hlt; omega
      · rw [e] at hlt; simp at hlt
        obtain rfl : n = 1 := by omega
        exact hb' c1
      · rw [e] at hlt; simp at hlt
        rcases (by omega : n = 1 ∨ n = 2) with rfl | rfl
        · exact hb' c1
        · exact hb' c2
      · rw [e] at hlt; simp at hlt
        rcases (by omega : n = 1 ∨ n = 2 ∨ n = 3) with rfl | rfl | rfl
        · exact hb' c1
        · exact hb' c2
        · exact hb' c3
      · rw [e] at hlt; simp at hlt; omega
    · exact hge
  have := dL_take (l ++ b :: r) l.length hk
  rw [← this, List.take_left]
theorem chs_app (r : List UInt8) (b : UInt8) (hb : b.toNat / 64 ≠ 2) : ∀ l : List UInt8, chs (l ++ b :: r) = chs l ++ chs (b :: r) := by
  refine chs_ind rfl ?_
  intro l hl ih
  have hd := dL_app l r b hl hb
  have hle := dL_le l hl
  rw [chs_cons (l ++ b :: r) (by simp), hd, chs_cons l hl, List.cons_append]
  rw [List.take_append_of_le_length hle, List.drop_append_of_le_length hle, ih]
theorem chs_ascii (b : UInt8) (r : List UInt8) (hb : b.toNat < 128) : chs (b :: r) = (b.toNat, [b]) :: chs r := by
  have hd : Lib.decodeL (b :: r) = (b.toNat, 1) := by
    rw [Lib.decodeL_N]
    simp only [List.getD_cons_zero]
    exact Lib.decodeN_ascii _ _ _ _ _ hb
  rw [chs_cons _ (by simp), hd]
  rfl
/-- a part of a text by a test: its chunks are those of the run -/
theorem run_part {p : Nat → Bool} : ∀ (cs cur : List Ch) (x : List Ch), x ∈ runsC p cur cs → (∀ c ∈ cur, p c.1 = false) → ∃ A B, cur ++ cs = A ++ x ++ B ∧ x ≠ [] ∧ ∀ c ∈ x, p c.1 = false
  | [], cur, x, h, hc => by
    by_cases q : cur = []
    · simp [runsC, q] at h
    · simp [runsC, q] at h; subst h; exact ⟨[], [], by simp, q, hc⟩
  | d :: cs, cur, x, h, hc => by
    cases hd : p d.1
    · simp only [runsC, hd, Bool.false_eq_true, if_false] at h
      obtain ⟨A, B, e, h1, h2⟩ := run_part cs (cur ++ [d]) x h (fun c q => by rcases List.mem_append.1 q with q | q; exact hc c q; simp at q; rw [q]; exact hd)
      exact ⟨A, B, by rw [← e]; simp, h1, h2⟩
    · simp only [runsC, hd, if_true] at h
      rcases List.mem_append.1 h with h | h
      · by_cases q : cur = []
        · simp [q] at h
        · simp [q] at h; subst h; exact ⟨[], d :: cs, by simp, q, hc⟩
      · obtain ⟨A, B, e, h1, h2⟩ := run_part cs [] x h (fun c q => by cases q)
        rw [List.nil_append] at e
        exact ⟨cur ++ [d] ++ A, B, by rw [e]; simp, h1, h2⟩
/-- a word: not empty, none of its chunks satisfies the test -/
structure Word (p : Nat → Bool) (f : ByteArray) : Prop where
  ne : f.size ≠ 0
  no : ∀ c ∈ chs f.data.toList, p c.1 = false
theorem field_word (p : Nat → Bool) (s f : ByteArray) (h : f ∈ fieldsP p s) : Word p f := by
  rw [fields_eq] at h
  obtain ⟨x, hx, rfl⟩ := List.mem_map.1 h
  obtain ⟨A, B, e, h1, h2⟩ := run_part _ [] x hx (fun c q => by cases q)
  rw [List.nil_append] at e
  have hc := chs_mid _ A x B e
  refine ⟨?_, by rw [ofB_data, hc]; exact h2⟩
  rw [ofB_size]
  intro e0
  exact h1 ((cat_eq_nil e).1 (List.length_eq_zero_iff.1 e0))
theorem word_chs {p : Nat → Bool} {f : ByteArray} (h : Word p f) : ∃ c r, chs f.data.toList = c :: r ∧ p c.1 = false := by
  cases hq : chs f.data.toList with
  | nil => have := chs_eq_nil.1 hq; exact absurd (by rw [← len_data, this]; rfl) h.ne
  | cons c r => exact ⟨c, r, rfl, h.no c (by rw [hq]; simp)⟩
theorem tw_all (q : Ch → Bool) : ∀ (r : List Ch), (∀ x ∈ r, q x = true) → r.takeWhile q = r ∧ r.dropWhile q = []
  | [], _ => ⟨rfl, rfl⟩
  | c :: r, h => by
    obtain ⟨i1, i2⟩ := tw_all q r (fun x hx => h x (by simp [hx]))
    simp [List.takeWhile_cons, List.dropWhile_cons, h c (by simp), i1, i2]
theorem word_runs {p : Nat → Bool} {cs : List Ch} (hn : cs ≠ []) (h : ∀ c ∈ cs, p c.1 = false) (R : List Ch) (hR : R = [] ∨ ∃ d R', R = d :: R' ∧ p d.1 = true) : runsC p [] (cs ++ R) = cs :: runsC p [] R := by
  obtain ⟨c, r, rfl⟩ : ∃ c r, cs = c :: r := by cases cs with | nil => exact absurd rfl hn | cons c r => exact ⟨c, r, rfl⟩
  rw [List.cons_append, runs_head (h c (by simp))]
  have hall : ∀ x ∈ r, (fun c : Ch => !p c.1) x = true := fun x hx => by simp [h x (by simp [hx])]
  rcases hR with rfl | ⟨d, R', rfl, hd⟩
  · obtain ⟨e1, e2⟩ := tw_all (fun c : Ch => !p c.1) r hall
    rw [List.append_nil, e1, e2]
  · rw [List.takeWhile_append_of_pos hall, List.dropWhile_append_of_pos hall]
    simp [List.takeWhile_cons, List.dropWhile_cons, hd]
theorem word_fields {p : Nat → Bool} {f : ByteArray} (h : Word p f) : fieldsP p f = [f] ∧ trimR p (trimL p f) = f := by
  have hn : chs f.data.toList ≠ [] := by obtain ⟨c, r, e, _⟩ := word_chs h; rw [e]; simp
  have h1 := word_runs hn h.no [] (.inl rfl)
  rw [List.append_nil] at h1
  have hf : fieldsP p f = [f] := by
    rw [fields_eq, h1]
    simp only [runsC, if_true, List.map_cons, List.map_nil]
    rw [cat_chs, ofB_of]
  have := (field_facts p f).one (by rw [hf]; rfl)
  refine ⟨hf, this.trans ?_⟩
  simp only [hf, List.getElem_cons_zero]
/-- words with a separator between are its fields -/
theorem join_runs {p : Nat → Bool} (sep : List UInt8) (b : UInt8) (sr : List UInt8) (hsep : sep = b :: sr) (hb : b.toNat < 128) (hp : ∀ c ∈ chs sep, p c.1 = true) (happ : ∀ l, chs (sep ++ l) = chs sep ++ chs l) :
    ∀ (L : List ByteArray), (∀ f ∈ L, Word p f) → runsC p [] (chs (Lib.join (L.map (·.data.toList)) sep)) = L.map (fun f => chs f.data.toList)
  | [], _ => rfl
  | [f], h => by
    have hw := h f (by simp)
    have hn : chs f.data.toList ≠ [] := by obtain ⟨c, r, e, _⟩ := word_chs hw; rw [e]; simp
    have h1 := word_runs hn hw.no [] (.inl rfl)
    rw [List.append_nil] at h1
    have e : Lib.join ([f].map (·.data.toList)) sep = f.data.toList := by simp [Lib.join_cons, Lib.joinTail]
    rw [e, h1]; rfl
  | f :: g :: L, h => by
    have hw := h f (by simp)
    have hn : chs f.data.toList ≠ [] := by obtain ⟨c, r, e, _⟩ := word_chs hw; rw [e]; simp
    have ih := join_runs sep b sr hsep hb hp happ (g :: L) (fun x hx => h x (by simp [hx]))
    have e : Lib.join ((f :: g :: L).map (·.data.toList)) sep = f.data.toList ++ (sep ++ Lib.join ((g :: L).map (·.data.toList)) sep) := by
      simp only [List.map_cons, Lib.join_cons, Lib.joinTail, List.flatten_cons, List.append_assoc]
    rw [e]
    have e2 : f.data.toList ++ (sep ++ Lib.join ((g :: L).map (·.data.toList)) sep) = f.data.toList ++ b :: (sr ++ Lib.join ((g :: L).map (·.data.toList)) sep) := by rw [hsep]; simp
    rw [e2, chs_app _ b (by omega)]
    have e3 : b :: (sr ++ Lib.join ((g :: L).map (·.data.toList)) sep) = sep ++ Lib.join ((g :: L).map (·.data.toList)) sep := by rw [hsep]; simp
    rw [e3, happ, word_runs hn hw.no _ (.inr ?_), runs_skip _ hp, ih]
    · rfl
    · obtain ⟨d, R, hd⟩ : ∃ d R, chs sep = d :: R := by
        rw [hsep, chs_ascii b sr hb]; exact ⟨_, _, rfl⟩
      exact ⟨d, _, by rw [hd]; rfl, hp d (by rw [hd]; simp)⟩
theorem join_fields {p : Nat → Bool} (sep : List UInt8) (b : UInt8) (sr : List UInt8) (hsep : sep = b :: sr) (hb : b.toNat < 128) (hp : ∀ c ∈ chs sep, p c.1 = true) (happ : ∀ l, chs (sep ++ l) = chs sep ++ chs l) (L : List ByteArray) (h : ∀ f ∈ L, Word p f) :
    fieldsP p (ofB (Lib.join (L.map (·.data.toList)) sep)) = L := by
  rw [fields_eq, ofB_data, join_runs sep b sr hsep hb hp happ L h, List.map_map]
  conv => rhs; rw [← List.map_id L]
  apply List.map_congr_left
  intro x _
  show ofB (cat (chs x.data.toList)) = x
  rw [cat_chs, ofB_of]
end Go.Proofs.YteiginpjahmppaaDoor
