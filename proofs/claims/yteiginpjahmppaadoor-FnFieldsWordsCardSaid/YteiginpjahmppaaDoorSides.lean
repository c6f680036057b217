/-
  Plain laws of what is trimmed at both ends, of the first and the last chunk that satisfies a test. No condition.
-/
import Derived.Test.YteiginpjahmppaaDoorCh
namespace Go.Proofs.YteiginpjahmppaaDoor
set_option linter.unusedVariables false

abbrev allP (p : Nat → Bool) (cs : List Ch) : Prop := ∀ c ∈ cs, p c.1 = true
section
variable {p : Nat → Bool}
theorem ldw_nil : ldw p [] = [] := rfl
theorem rdw_nil : rdw p [] = [] := rfl
theorem ldw_head {c : Ch} {r : List Ch} (h : p c.1 = false) : ldw p (c :: r) = c :: r := by simp [ldw, List.dropWhile_cons, h]
theorem ldw_app : ∀ {T : List Ch} (cs : List Ch), allP p T → ldw p (T ++ cs) = ldw p cs
  | [], cs, _ => rfl
  | t :: T, cs, h => by
    have h0 := h t (by simp)
    have ih := ldw_app (T := T) cs (fun c hc => h c (by simp [hc]))
    unfold ldw at ih ⊢
    simp only [List.cons_append, List.dropWhile_cons, h0, if_true]
    exact ih
theorem ldw_all {T : List Ch} (h : allP p T) : ldw p T = [] := by
  have := ldw_app [] h
  rwa [List.append_nil] at this
theorem rdw_last {c : Ch} {r : List Ch} (h : p c.1 = false) : rdw p (r ++ [c]) = r ++ [c] := by rw [rdw_snoc, h]; rfl
theorem rdw_app {cs T : List Ch} (h : allP p T) : rdw p (cs ++ T) = rdw p cs := by
  unfold rdw
  rw [List.reverse_append]
  have := ldw_app (p := p) (T := T.reverse) cs.reverse (fun c hc => h c (by simpa using hc))
  unfold ldw at this
  rw [this]
theorem rdw_all {T : List Ch} (h : allP p T) : rdw p T = [] := by
  have := rdw_app (cs := []) h
  rwa [List.nil_append] at this
theorem ldw_form : ∀ (cs : List Ch), allP p cs ∨ ∃ T c r, cs = T ++ c :: r ∧ allP p T ∧ p c.1 = false
  | [] => .inl (fun c hc => by cases hc)
  | c :: cs => by
    cases hc : p c.1
    · exact .inr ⟨[], c, cs, rfl, (fun c hc => by cases hc), hc⟩
    · rcases ldw_form cs with h | ⟨T, d, r, rfl, hT, hd⟩
      · left; intro x hx; rcases List.mem_cons.1 hx with rfl | hx
        · exact hc
        · exact h x hx
      · right; refine ⟨c :: T, d, r, rfl, ?_, hd⟩
        intro x hx; rcases List.mem_cons.1 hx with rfl | hx
        · exact hc
        · exact hT x hx
theorem rdw_form (cs : List Ch) : allP p cs ∨ ∃ r c T, cs = r ++ c :: T ∧ allP p T ∧ p c.1 = false := by
  rcases ldw_form (p := p) cs.reverse with h | ⟨T, d, r, e, hT, hd⟩
  · left; intro x hx; exact h x (by simpa using hx)
  · right
    refine ⟨r.reverse, d, T.reverse, ?_, (fun c hc => hT c (by simpa using hc)), hd⟩
    have := congrArg List.reverse e
    simpa using this
/-- what stands between the ends that satisfy p -/
theorem mid_form (cs : List Ch) : allP p cs ∨ ∃ T M U, cs = T ++ M ++ U ∧ allP p T ∧ allP p U ∧ (∃ c r, M = c :: r ∧ p c.1 = false) ∧ ∃ r c, M = r ++ [c] ∧ p c.1 = false := by
  rcases ldw_form (p := p) cs with h | ⟨T, c, r, rfl, hT, hc⟩
  · exact .inl h
  · right
    rcases rdw_form (p := p) (c :: r) with h | ⟨r', d, U, e, hU, hd⟩
    · have := h c (by simp); rw [hc] at this; cases this
    · refine ⟨T, r' ++ [d], U, by rw [e]; simp, hT, hU, ?_, r', d, rfl, hd⟩
      cases r' with
      | nil => simp only [List.nil_append, List.cons.injEq] at e; exact ⟨d, [], rfl, hd⟩
      | cons x r' => simp only [List.cons_append, List.cons.injEq] at e; exact ⟨x, r' ++ [d], rfl, by rw [← e.1]; exact hc⟩
theorem mid_ldw {T M U : List Ch} (hT : allP p T) (hM : ∃ c r, M = c :: r ∧ p c.1 = false) : ldw p (T ++ M ++ U) = M ++ U := by
  obtain ⟨c, r, rfl, hc⟩ := hM
  rw [List.append_assoc, ldw_app _ hT, List.cons_append, ldw_head hc]
theorem mid_rdw {T M U : List Ch} (hU : allP p U) (hM : ∃ r c, M = r ++ [c] ∧ p c.1 = false) : rdw p (T ++ M ++ U) = T ++ M := by
  obtain ⟨r, c, rfl, hc⟩ := hM
  rw [rdw_app hU, ← List.append_assoc, rdw_last hc]
end
theorem ba_eq {a b : ByteArray} (h : a.data.toList = b.data.toList) : a = b := by
  cases a; cases b; simp at h; rw [ByteArray.mk.injEq]; exact h
/-- trimming at both ends: either order, again, and what is left begins with one that does not satisfy p -/
structure TrimFacts (p : Nat → Bool) (s : ByteArray) : Prop where
  other : trimL p (trimR p s) = trimR p (trimL p s)
  again : trimR p (trimL p (trimR p (trimL p s))) = trimR p (trimL p s)
  none : (trimR p (trimL p s)).size = 0 → firstAt (fun x => !p x) (pcs 0 s.data.toList) = -1
  head : (trimR p (trimL p s)).size ≠ 0 → firstAt (fun x => !p x) (pcs 0 (trimR p (trimL p s)).data.toList) = 0
  sum : (trimR p (trimL p s)).size ≠ 0 → firstAt (fun x => !p x) (pcs 0 s.data.toList) + ((trimL p s).size : Int) = (s.size : Int)
theorem trim_facts (p : Nat → Bool) (s : ByteArray) : TrimFacts p s := by
  have hL := trimL_ch p s
  have hR := trimR_ch p s
  have cL : chs (trimL p s).data.toList = ldw p (chs s.data.toList) := by rw [hL]; exact chs_ldw p _
  have cR : chs (trimR p s).data.toList = rdw p (chs s.data.toList) := by rw [hR]; exact chs_rdw p _
  have hLR := trimL_ch p (trimR p s)
  have hRL := trimR_ch p (trimL p s)
  rw [cR] at hLR
  have cRL : chs (trimR p (trimL p s)).data.toList = rdw p (ldw p (chs s.data.toList)) := by rw [hRL, ← cL]; exact chs_rdw p _
  rw [cL] at hRL
  have h1 := trimL_ch p (trimR p (trimL p s))
  have c1 : chs (trimL p (trimR p (trimL p s))).data.toList = ldw p (rdw p (ldw p (chs s.data.toList))) := by rw [h1, ← cRL]; exact chs_ldw p _
  have h2 := trimR_ch p (trimL p (trimR p (trimL p s)))
  rw [c1] at h2
  have hs := cat_chs s.data.toList
  generalize hcs : chs s.data.toList = cs at *
  have hn : ∀ (x : ByteArray), x.size = 0 ↔ x.data.toList = [] := fun x => by rw [← len_data, List.length_eq_zero_iff]
  rcases mid_form (p := p) cs with ha | ⟨T, M, U, rfl, hT, hU, hM, hM'⟩
  · rw [ldw_all ha] at hRL h2
    rw [rdw_all ha] at hLR
    simp only [ldw_nil, rdw_nil, cat_nil] at hRL h2 hLR
    have hf : firstAt (fun x => !p x) (pcs 0 s.data.toList) = -1 := by
      rw [pcs_lay, hcs, first_lay, if_pos]
      simp only [Bool.not_not, List.all_eq_true]; exact ha
    refine ⟨ba_eq (by rw [hLR, hRL]), ba_eq (by rw [h2, hRL]), fun _ => hf, fun h => absurd ((hn _).2 hRL) h, fun h => absurd ((hn _).2 hRL) h⟩
  · have e1 := mid_ldw (U := U) hT hM
    have e2 : rdw p (M ++ U) = M := by have := mid_rdw (T := []) hU hM'; simpa using this
    have e3 := mid_rdw (T := T) hU hM'
    have e4 : ldw p (T ++ M) = M := by have := mid_ldw (U := []) hT hM; simpa using this
    have e5 : ldw p M = M := by have := mid_ldw (T := []) (U := []) (fun c hc => by cases hc) hM; simpa using this
    have e6 : rdw p M = M := by have := mid_rdw (T := []) (U := []) (fun c hc => by cases hc) hM'; simpa using this
    rw [e1] at hL cL hRL cRL c1 h2
    rw [e2] at hRL cRL c1 h2
    rw [e3, e4] at hLR
    rw [e5, e6] at h2
    have hne : cat M ≠ [] := by
      intro e
      have := cRL; rw [hRL, e, chs_nil] at this
      obtain ⟨c, r, rfl, _⟩ := hM
      cases this
    refine ⟨ba_eq (by rw [hLR, hRL]), ba_eq (by rw [h2, hRL]), fun h => absurd ((hn _).1 h) (by rw [hRL]; exact hne), fun _ => ?_, fun _ => ?_⟩
    · obtain ⟨c, r, rfl, hc⟩ := hM
      rw [pcs_lay, cRL, first_lay, if_neg (by simp [hc])]
      simp [List.takeWhile_cons, hc, cat]
    · obtain ⟨c, r, rfl, hc⟩ := hM
      have htw : (T ++ c :: r ++ U).takeWhile (fun x => !(!p x.1)) = T := by
        have hcong : ∀ (T : List Ch), allP p T → (T ++ c :: r ++ U).takeWhile (fun x => !(!p x.1)) = T := by
          intro T
          induction T with
          | nil => intro _; simp [List.takeWhile_cons, hc]
          | cons t T ih => intro h; simp only [List.cons_append, List.takeWhile_cons, h t (by simp), Bool.not_true, Bool.not_false, if_true]; rw [ih (fun x hx => h x (by simp [hx]))]
        exact hcong T hT
      rw [pcs_lay, hcs, first_lay, if_neg (by simp [hc]), htw, ← len_data, ← len_data, hL, ← hs]
      simp only [List.append_assoc, cat_append, List.length_append]
      omega
theorem first_skip (p : Nat → Bool) : ∀ (X Y : List Pc), (∀ z ∈ X, p z.r = false) → firstAt p (X ++ Y) = firstAt p Y
  | [], Y, _ => rfl
  | x :: X, Y, h => by
    simp only [List.cons_append, firstAt, h x (by simp), Bool.false_eq_true, if_false]
    exact first_skip p X Y (fun z hz => h z (by simp [hz]))
theorem lay_none (p : Nat → Bool) : ∀ (U : List Ch) (pos : Nat), (∀ c ∈ U, p c.1 = false) → ∀ z ∈ lay pos U, p z.r = false
  | [], _, _, z, hz => by cases hz
  | c :: U, pos, h, z, hz => by
    rcases List.mem_cons.1 hz with rfl | hz
    · exact h c (by simp)
    · exact lay_none p U _ (fun c hc => h c (by simp [hc])) z hz
theorem last_lay (p : Nat → Bool) (A : List Ch) (d : Ch) (U : List Ch) (hd : p d.1 = true) (hU : ∀ c ∈ U, p c.1 = false) : lastAt p (lay 0 (A ++ d :: U)) = (((cat A).length : Nat) : Int) := by
  unfold lastAt
  rw [lay_append]
  simp only [lay, List.reverse_append, List.reverse_cons, List.append_assoc]
  rw [first_skip p _ _ (fun z hz => lay_none p U _ hU z (by simpa using hz))]
  simp [firstAt, hd]
/-- ahead of the first one, and behind the last one, there is none -/
structure EndFacts (p : Nat → Bool) (s : ByteArray) (i k n : Nat) : Prop where
  first : firstAt p (pcs 0 s.data.toList) = (i : Int)
  last : lastAt p (pcs 0 s.data.toList) = (k : Int)
  le : i ≤ k
  pos : 1 ≤ n
  fit : k + n ≤ s.size
  size : (match pcs 0 (s.extract k s.size).data.toList with | [] => 0 | x :: _ => x.size) = n
  ahead : firstAt p (pcs 0 (s.extract 0 i).data.toList) = -1
  here : firstAt p (pcs 0 (s.extract k s.size).data.toList) = 0
  behind : firstAt p (pcs 0 (s.extract (k + n) s.size).data.toList) = -1
theorem end_facts (p : Nat → Bool) (s : ByteArray) : (firstAt p (pcs 0 s.data.toList) = -1 ∧ lastAt p (pcs 0 s.data.toList) = -1) ∨ ∃ i k n, EndFacts p s i k n := by
  have hs := cat_chs s.data.toList
  have hlen := len_data s
  rcases mid_form (p := fun x => !p x) (chs s.data.toList) with ha | ⟨T, M, U, hcs, hT, hU, ⟨c, r, hM, hc⟩, r', d, hM', hd⟩
  · left
    have hz : ∀ z ∈ pcs 0 s.data.toList, p z.r = false := by
      rw [pcs_lay]; exact lay_none p _ _ (fun c hc => by have := ha c hc; simpa using this)
    exact ⟨first_none p _ hz, first_none p _ (fun z h => hz z (by simpa using h))⟩
  · right
    have hc' : p c.1 = true := by simpa using hc
    have hd' : p d.1 = true := by simpa using hd
    have hT' : ∀ c ∈ T, p c.1 = false := fun c hc => by have := hT c hc; simpa using this
    have hU' : ∀ c ∈ U, p c.1 = false := fun c hc => by have := hU c hc; simpa using this
    have e1 : chs s.data.toList = T ++ (M ++ U) := by rw [hcs, List.append_assoc]
    have e2 : chs s.data.toList = (T ++ r') ++ d :: U := by rw [hcs, hM']; simp
    have e3 : chs s.data.toList = (T ++ r' ++ [d]) ++ U := by rw [e2]; simp
    have l1 : s.data.toList = cat T ++ cat (M ++ U) := by rw [← cat_append, ← e1, hs]
    have l2 : s.data.toList = cat (T ++ r') ++ cat (d :: U) := by rw [← cat_append, ← e2, hs]
    have l3 : s.data.toList = cat (T ++ r' ++ [d]) ++ cat U := by rw [← cat_append, ← e3, hs]
    have hdn : d.2 ≠ [] := chs_ne (l := s.data.toList) (by rw [e2]; simp)
    have hdp : 0 < d.2.length := List.length_pos_iff.2 hdn
    have n3 : (cat (T ++ r' ++ [d])).length = (cat (T ++ r')).length + d.2.length := by rw [cat_append _ [d], List.length_append]; simp [cat]
    have x1 : (s.extract 0 (cat T).length).data.toList = cat T := by rw [Lib.extract_data, List.drop_zero, Nat.sub_zero, l1, List.take_left]
    have n2 : s.size = (cat (T ++ r')).length + (cat (d :: U)).length := by rw [← hlen, l2, List.length_append]
    have x2 : (s.extract (cat (T ++ r')).length s.size).data.toList = cat (d :: U) := by
      rw [Lib.extract_data]
      conv => lhs; rw [l2]
      rw [List.drop_left, List.take_of_length_le (by omega)]
    have n4 : s.size = (cat (T ++ r' ++ [d])).length + (cat U).length := by rw [← hlen, l3, List.length_append]
    have x3 : (s.extract ((cat (T ++ r')).length + d.2.length) s.size).data.toList = cat U := by
      rw [← n3, Lib.extract_data]
      conv => lhs; rw [l3]
      rw [List.drop_left, List.take_of_length_le (by omega)]
    have k1 : chs (cat T) = T := chs_prefix _ _ _ e1
    have k2 : chs (cat (d :: U)) = d :: U := chs_suffix _ _ _ e2
    have k3 : chs (cat U) = U := chs_suffix _ _ _ e3
    have f0 : firstAt p (lay (0 + (cat T).length) (M ++ U)) = (((cat T).length : Nat) : Int) := by
      rw [hM]; simp [lay, firstAt, hc']
    refine ⟨(cat T).length, (cat (T ++ r')).length, d.2.length, ?_, ?_, ?_, hdp, ?_, ?_, ?_, ?_, ?_⟩
    · rw [pcs_lay, e1, lay_append, first_skip p _ _ (lay_none p T _ hT')]
      exact f0
    · rw [pcs_lay, e2]; exact last_lay p _ d U hd' hU'
    · rw [cat_append, List.length_append]; omega
    · omega
    · rw [x2, pcs_lay, k2]; rfl
    · rw [x1, pcs_lay, k1]; exact first_none p _ (lay_none p T _ hT')
    · rw [x2, pcs_lay, k2]; simp [lay, firstAt, hd']
    · rw [x3, pcs_lay, k3]; exact first_none p _ (lay_none p U _ hU')
end Go.Proofs.YteiginpjahmppaaDoor
