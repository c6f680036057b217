/-
  Plain laws of white space: what the library trims and splits is what the tests of white space trim and split. No condition.
-/
import Derived.Test.YteiginpjahmppaaDoorSides
import Derived.Test.YteiginpjahmppaaDoorTest
import Derived.Lib.SpaceU
namespace Go.Proofs.YteiginpjahmppaaDoor
set_option linter.unusedVariables false

theorem trimLeftD_ch : ∀ (f : Nat) (l : List UInt8), l.length ≤ f → Lib.trimLeftD f l = cat (ldw Lib.isSpaceR (chs l))
  | 0, l, h => by
    have : l = [] := List.length_eq_zero_iff.1 (by omega)
    subst this; rfl
  | f + 1, l, h => by
    by_cases hl : l = []
    · subst hl; simp [Lib.trimLeftD, chs_nil, ldw_nil, cat_nil]
    · have h1 := dL_pos l
      have h2 : 0 < l.length := List.length_pos_iff.2 hl
      simp only [Lib.trimLeftD, if_neg hl]
      by_cases hp : Lib.isSpaceR (Lib.decodeL l).1 = true
      · rw [if_pos hp, trimLeftD_ch f _ (by rw [List.length_drop]; omega), chs_cons l hl]
        have := ldw_app (p := Lib.isSpaceR) (T := [((Lib.decodeL l).1, l.take (Lib.decodeL l).2)]) (chs (l.drop (Lib.decodeL l).2)) (by intro c hc; simp at hc; rw [hc]; exact hp)
        rw [List.singleton_append] at this
        rw [this]
      · rw [if_neg hp, chs_cons l hl, ldw_head (by simpa using hp), ← chs_cons l hl, cat_chs]
theorem last_ch {l : List UInt8} {C : List Ch} {c : Ch} (h : chs l = C ++ [c]) : Lib.decodeLastL l = (c.1, c.2.length) ∧ l.take (l.length - c.2.length) = cat C := by
  have h1 : pcs 0 l = lay 0 C ++ [⟨0 + (cat C).length, c.2.length, c.1, okD (c.1, c.2.length)⟩] := by rw [pcs_lay, h, lay_append]; rfl
  refine ⟨last_piece h1, ?_⟩
  have h2 : l = cat C ++ c.2 := by rw [← cat_chs l, h, cat_append]; simp [cat]
  have h3 : l.length - c.2.length = (cat C).length := by rw [h2]; simp
  rw [h3]; exact take_pre h2
theorem chs_snoc (l : List UInt8) (h : l ≠ []) : ∃ C c, chs l = C ++ [c] := by
  rcases List.eq_nil_or_concat (chs l) with e | ⟨C, c, e⟩
  · exact absurd (chs_eq_nil.1 e) h
  · exact ⟨C, c, by simpa using e⟩
theorem trimRightD_ch : ∀ (f : Nat) (l : List UInt8), l.length ≤ f → Lib.trimRightD f l = cat (rdw Lib.isSpaceR (chs l))
  | 0, l, h => by
    have : l = [] := List.length_eq_zero_iff.1 (by omega)
    subst this; rfl
  | f + 1, l, h => by
    by_cases hl : l = []
    · subst hl; simp [Lib.trimRightD, chs_nil, rdw_nil, cat_nil]
    · obtain ⟨C, c, e⟩ := chs_snoc l hl
      obtain ⟨h1, h2⟩ := last_ch e
      have hne : c.2 ≠ [] := chs_ne (l := l) (by rw [e]; simp)
      have hc0 : 0 < c.2.length := List.length_pos_iff.2 hne
      simp only [Lib.trimRightD, if_neg hl, h1, h2]
      rw [e, rdw_snoc]
      split
      · rename_i hp
        have hlen : (cat C).length ≤ f := by
          have : l = cat C ++ c.2 := by rw [← cat_chs l, e, cat_append]; simp [cat]
          have := congrArg List.length this
          rw [List.length_append] at this; omega
        rw [trimRightD_ch f _ hlen, chs_prefix l C [c] e]
      · rw [← e, cat_chs]
theorem trimSpace_is (s : ByteArray) : (⟨(Lib.trimSpaceD s.data.toList).toArray⟩ : ByteArray) = trimR Lib.isSpaceR (trimL Lib.isSpaceR s) := by
  apply ba_eq
  have e1 : Lib.trimLeftD s.data.toList.length s.data.toList = (trimL Lib.isSpaceR s).data.toList := by rw [trimLeftD_ch _ _ (Nat.le_refl _), trimL_ch]
  have hle : (trimL Lib.isSpaceR s).data.toList.length ≤ s.data.toList.length := by
    rw [len_data, len_data, ← trimLeft_is]; exact trimLeftF_size _ _
  show Lib.trimSpaceD s.data.toList = _
  unfold Lib.trimSpaceD
  rw [e1, trimRightD_ch _ _ hle, trimR_ch]
theorem fieldsD_ch : ∀ (f : Nat) (l : List UInt8) (cur : List Ch), l.length < f → (cur ≠ [] → cat cur ≠ []) → Lib.fieldsGoD f (cat cur) l = (runsC Lib.isSpaceR cur (chs l)).map cat
  | 0, l, cur, h, _ => by omega
  | f + 1, l, cur, h, hc => by
    have hcur : (cat cur = []) ↔ cur = [] := ⟨fun e => by by_cases q : cur = []; exact q; exact absurd e (hc q), fun e => by rw [e]; rfl⟩
    by_cases hl : l = []
    · subst hl
      simp only [Lib.fieldsGoD, if_true, chs_nil, runsC]
      by_cases q : cur = []
      · rw [if_pos (hcur.2 q), if_pos q]; rfl
      · rw [if_neg (fun e => q (hcur.1 e)), if_neg q]; rfl
    · have h1 := dL_pos l
      have h2 : 0 < l.length := List.length_pos_iff.2 hl
      have hle := dL_le l hl
      have i1 := fieldsD_ch f (l.drop (Lib.decodeL l).2) [] (by rw [List.length_drop]; omega) (fun q => absurd rfl q)
      have i2 := fieldsD_ch f (l.drop (Lib.decodeL l).2) (cur ++ [((Lib.decodeL l).1, l.take (Lib.decodeL l).2)]) (by rw [List.length_drop]; omega) (fun _ e => by
        rw [cat_append, List.append_eq_nil_iff] at e
        have := congrArg List.length e.2
        rw [cat_cons, cat_nil, List.append_nil, List.length_take, List.length_nil] at this
        omega)
      have hx : cat (cur ++ [((Lib.decodeL l).1, l.take (Lib.decodeL l).2)]) = cat cur ++ l.take (Lib.decodeL l).2 := by rw [cat_append]; simp [cat]
      rw [hx] at i2
      rw [cat_nil] at i1
      rw [chs_cons l hl]
      simp only [Lib.fieldsGoD, if_neg hl, runsC]
      by_cases hp : Lib.isSpaceR (Lib.decodeL l).1 = true
      · rw [if_pos hp, if_pos hp, i1, List.map_append]
        congr 1
        by_cases q : cur = []
        · rw [if_pos (hcur.2 q), if_pos q]; rfl
        · rw [if_neg (fun e => q (hcur.1 e)), if_neg q]; rfl
      · rw [if_neg hp, if_neg hp, i2]
theorem fields_is (s : ByteArray) : (Lib.fieldsD s.data.toList).map (fun x => (⟨x.toArray⟩ : ByteArray)) = fieldsP Lib.isSpaceR s := by
  have h1 := fieldsD_ch (s.data.toList.length + 1) s.data.toList [] (by omega) (fun q => absurd rfl q)
  rw [cat_nil] at h1
  have h2 := fields_ch Lib.isSpaceR s
  rw [← h1] at h2
  show (Lib.fieldsGoD (s.data.toList.length + 1) [] s.data.toList).map _ = _
  rw [← h2, List.map_map]
  conv => rhs; rw [← List.map_id (fieldsP Lib.isSpaceR s)]
  apply List.map_congr_left
  intro x _
  show (⟨x.data.toList.toArray⟩ : ByteArray) = x
  cases x; simp
/-- the code points of white space below k -/
def blankK (k : Nat) : List Int := ((List.range k).filter Lib.isSpaceR).map fun n : Nat => (n : Int)
theorem blankK_succ (k : Nat) : blankK (k + 1) = blankK k ++ (if Lib.isSpaceR k then [(k : Int)] else []) := by
  unfold blankK
  rw [List.range_succ, List.filter_append, List.map_append]
  congr 1
  by_cases h : Lib.isSpaceR k = true <;> simp [List.filter_cons, h]
theorem blankK_len (k : Nat) : (blankK k).length ≤ k := by
  unfold blankK
  rw [List.length_map]
  have := List.length_filter_le Lib.isSpaceR (List.range k)
  simpa using this
theorem space_le (n : Nat) (h : Lib.isSpaceR n = true) : n ≤ 12288 := by
  unfold Lib.isSpaceR at h
  simp only [Bool.or_eq_true, Bool.and_eq_true, decide_eq_true_eq, beq_iff_eq] at h
  omega
theorem blank_holds (x : Nat) : holdB (blankK 12289) false x = Lib.isSpaceR x := by
  unfold holdB
  by_cases h : Lib.isSpaceR x = true
  · rw [if_pos, h]; rfl
    simp only [List.contains_iff_mem]
    unfold blankK
    exact List.mem_map.2 ⟨x, List.mem_filter.2 ⟨List.mem_range.2 (by have := space_le x h; omega), h⟩, rfl⟩
  · rw [if_neg]
    · simpa using h
    · simp only [List.contains_iff_mem]
      unfold blankK
      intro hm
      obtain ⟨y, hy, e⟩ := List.mem_map.1 hm
      have : y = x := by omega
      subst this
      exact h (List.mem_filter.1 hy).2
theorem blank_fun : (fun x : Nat => holdB (blankK 12289) false x) = Lib.isSpaceR := funext fun x => blank_holds x
end Go.Proofs.YteiginpjahmppaaDoor
