/-
  Plain laws of mending: each run of bytes that belong to no sequence replaced by a text. What is put together of well-formed sequences has just these. No condition.
-/
import Derived.Test.YtlgibcphfmjddaaDoorCh
import Derived.Test.YtlgibcphfmjddaaDoorFf
import Derived.Lib.TrimUEq
namespace Go.Proofs.YtlgibcphfmjddaaDoor
set_option linter.unusedVariables false

/-- is a chunk a well-formed sequence? -/
def okC (c : Ch) : Bool := okD (c.1, c.2.length)
def mendC (y : List UInt8) : Bool → List Ch → List UInt8
  | _, [] => []
  | i, c :: cs => if okC c then c.2 ++ mendC y false cs else (if i then [] else y) ++ mendC y true cs
/-- a text, mended -/
def mend (s y : ByteArray) : List UInt8 := mendC y.data.toList false (chs s.data.toList)
theorem chs_at (s : ByteArray) (k : Nat) (hk : k < s.size) : chs (s.data.toList.drop k) = ((Utf8.decode s k).1, (s.extract k (k + (Utf8.decode s k).2)).data.toList) :: chs (s.data.toList.drop (k + (Utf8.decode s k).2)) := by
  rw [chs_cons _ (ne_drop hk), List.drop_drop, ← decode_drop]
  congr 2
  rw [Lib.extract_data]
  congr 1; omega
theorem ext_len (s : ByteArray) (k n : Nat) (h : k + n ≤ s.size) : (s.extract k (k + n)).data.toList.length = n := by
  rw [Lib.extract_data, List.length_take, List.length_drop, len_data]; omega
theorem mend_ok {s : ByteArray} {k n : Nat} (y : List UInt8) (i : Bool) (hk : k < s.size) (hn : n = (Utf8.decode s k).2) (h : okD (Utf8.decode s k) = true) :
    mendC y i (chs (s.data.toList.drop k)) = (s.extract k (k + n)).data.toList ++ mendC y false (chs (s.data.toList.drop (k + n))) := by
  subst hn
  rw [chs_at s k hk, mendC]
  have : okC ((Utf8.decode s k).1, (s.extract k (k + (Utf8.decode s k).2)).data.toList) = true := by
    unfold okC
    simp only
    rw [ext_len s k _ (dec_fit s k hk).1]
    exact h
  rw [if_pos this]
theorem mend_bad {s : ByteArray} {k : Nat} (y : List UInt8) (i : Bool) (hk : k < s.size) (h : okD (Utf8.decode s k) = false) :
    mendC y i (chs (s.data.toList.drop k)) = (if i then [] else y) ++ mendC y true (chs (s.data.toList.drop (k + 1))) := by
  have hb := dec_bad s k h
  rw [chs_at s k hk, mendC, hb]
  have : okC (65533, (s.extract k (k + 1)).data.toList) = false := by
    unfold okC
    simp only
    rw [ext_len s k _ (by omega)]
    rfl
  rw [if_neg (by rw [this]; decide)]
theorem mend_end (s : ByteArray) (k : Nat) (y : List UInt8) (i : Bool) (hk : s.size ≤ k) : mendC y i (chs (s.data.toList.drop k)) = [] := by
  rw [drop_end s _ hk]; rfl
theorem mend_len (y : List UInt8) : ∀ (cs : List Ch) (i : Bool), (mendC y i cs).length ≤ (cat cs).length + cs.length * y.length
  | [], i => by simp [mendC]
  | c :: cs, i => by
    have h1 := mend_len y cs false
    have h2 := mend_len y cs true
    rw [mendC, cat_cons, List.length_append, List.length_cons, Nat.add_mul, Nat.one_mul]
    split
    · rw [List.length_append]; omega
    · rw [List.length_append]; split <;> simp <;> omega
theorem chs_len (l : List UInt8) : (chs l).length ≤ l.length := by
  have := pcs_len l.length 0 l (Nat.le_refl _)
  rw [pcs_lay, lay_length] at this
  exact this
theorem mend_le (s y : ByteArray) : (mend s y).length ≤ s.size + s.size * y.size := by
  have h1 := mend_len y.data.toList (chs s.data.toList) false
  have h2 := chs_len s.data.toList
  rw [cat_chs, len_data, len_data] at h1
  rw [len_data] at h2
  have := Nat.mul_le_mul_right y.size h2
  unfold mend
  omega
/-- what the loop over the text knows: what is done, and what is left -/
def MendAt (s y : ByteArray) (k : Nat) (i : Bool) (done : List UInt8) : Prop := mend s y = done ++ mendC y.data.toList i (chs (s.data.toList.drop k))
theorem mendAt_start (s y : ByteArray) : MendAt s y 0 false [] := rfl
theorem MendAt.ok {s y : ByteArray} {k n : Nat} {i : Bool} {d : List UInt8} (h : MendAt s y k i d) (hk : k < s.size) (hn : n = (Utf8.decode s k).2) (ho : okD (Utf8.decode s k) = true) : MendAt s y (k + n) false (d ++ (s.extract k (k + n)).data.toList) := by
  unfold MendAt at h ⊢
  rw [h, mend_ok _ _ hk hn ho, List.append_assoc]
theorem MendAt.bad {s y : ByteArray} {k : Nat} {d : List UInt8} (h : MendAt s y k false d) (hk : k < s.size) (ho : okD (Utf8.decode s k) = false) : MendAt s y (k + 1) true (d ++ y.data.toList) := by
  unfold MendAt at h ⊢
  rw [h, mend_bad _ _ hk ho, List.append_assoc]
  rfl
theorem MendAt.bad2 {s y : ByteArray} {k : Nat} {d : List UInt8} (h : MendAt s y k true d) (hk : k < s.size) (ho : okD (Utf8.decode s k) = false) : MendAt s y (k + 1) true d := by
  unfold MendAt at h ⊢
  rw [h, mend_bad _ _ hk ho]
  rfl
theorem MendAt.end_ {s y : ByteArray} {k : Nat} {i : Bool} {d : List UInt8} (h : MendAt s y k i d) (hk : s.size ≤ k) : mend s y = d := by
  unfold MendAt at h
  rw [h, mend_end s k _ _ hk, List.append_nil]
theorem MendAt.le {s y : ByteArray} {k : Nat} {i : Bool} {d : List UInt8} (h : MendAt s y k i d) : d.length ≤ s.size + s.size * y.size := by
  have h1 := mend_le s y
  unfold MendAt at h
  rw [h, List.length_append] at h1
  omega
/-- all is well so far: nothing has been changed -/
theorem mendAt_pre {s y : ByteArray} {k n : Nat} (h : MendAt s y k false (s.extract 0 k).data.toList) (hk : k < s.size) (hn : n = (Utf8.decode s k).2) (ho : okD (Utf8.decode s k) = true) : MendAt s y (k + n) false (s.extract 0 (k + n)).data.toList := by
  have h1 := h.ok hk hn ho
  have h2 : (s.extract 0 k).data.toList ++ (s.extract k (k + n)).data.toList = (s.extract 0 (k + n)).data.toList := by
    rw [Lib.extract_data, Lib.extract_data, Lib.extract_data, List.drop_zero, Nat.sub_zero, Nat.sub_zero, show k + n - k = n by omega, List.take_add]
  rw [h2] at h1
  exact h1
theorem mendAt_zero (s y : ByteArray) : MendAt s y 0 false (s.extract 0 0).data.toList := by
  have : (s.extract 0 0).data.toList = [] := by rw [Lib.extract_data]; simp
  rw [this]; exact mendAt_start s y
theorem mendAt_same {s y : ByteArray} {k : Nat} (h : MendAt s y k false (s.extract 0 k).data.toList) (hk : s.size ≤ k) : mend s y = s.data.toList := by
  rw [h.end_ hk, Lib.extract_data, List.drop_zero]
  exact List.take_of_length_le (by rw [len_data]; omega)
/-- .. by its pieces -/
def mendP (s : ByteArray) (y : List UInt8) : Bool → List Pc → List UInt8
  | _, [] => []
  | i, p :: ps => if p.ok then (s.extract p.at_ (p.at_ + p.size)).data.toList ++ mendP s y false ps else (if i then [] else y) ++ mendP s y true ps
theorem pcs_at (s : ByteArray) (k : Nat) (hk : k < s.size) : pcs k (s.data.toList.drop k) = ⟨k, (Utf8.decode s k).2, (Utf8.decode s k).1, okD (Utf8.decode s k)⟩ :: pcs (k + (Utf8.decode s k).2) (s.data.toList.drop (k + (Utf8.decode s k).2)) := by
  rw [pcs_cons k _ (ne_drop hk), List.drop_drop, ← decode_drop]
theorem mendP_eq (s : ByteArray) (y : List UInt8) : ∀ (n k : Nat) (i : Bool), s.size ≤ k + n → mendP s y i (pcs k (s.data.toList.drop k)) = mendC y i (chs (s.data.toList.drop k))
  | 0, k, i, h => by rw [drop_end s _ (by omega)]; rfl
  | n + 1, k, i, h => by
    by_cases hk : k < s.size
    · have hd := dec_fit s k hk
      rw [pcs_at s k hk, mendP]
      cases ho : okD (Utf8.decode s k)
      · rw [mend_bad y i hk ho, dec_bad s k ho, ← mendP_eq s y n (k + 1) true (by omega)]
        rfl
      · rw [mend_ok y i hk rfl ho, ← mendP_eq s y n (k + (Utf8.decode s k).2) false (by omega)]
        rfl
    · rw [drop_end s _ (by omega)]; rfl
theorem mend_pcs (s y : ByteArray) : mend s y = mendP s y.data.toList false (pcs 0 s.data.toList) := (mendP_eq s y.data.toList s.size 0 false (by omega)).symm
/-- is a text well-formed? -/
def wholeP (ps : List Pc) : Bool := ps.all (·.ok)
theorem whole_eq (s : ByteArray) : ∀ (n k : Nat), s.size ≤ k + n → wholeP (pcs k (s.data.toList.drop k)) = (chs (s.data.toList.drop k)).all okC
  | 0, k, h => by rw [drop_end s _ (by omega)]; rfl
  | n + 1, k, h => by
    by_cases hk : k < s.size
    · have hd := dec_fit s k hk
      rw [pcs_at s k hk, chs_at s k hk]
      have h2 : okC ((Utf8.decode s k).1, (s.extract k (k + (Utf8.decode s k).2)).data.toList) = okD (Utf8.decode s k) := by
        unfold okC; simp only; rw [ext_len s k _ hd.1]
      have h3 := whole_eq s n (k + (Utf8.decode s k).2) (by omega)
      unfold wholeP at h3 ⊢
      rw [List.all_cons, List.all_cons, h2, h3]
    · rw [drop_end s _ (by omega)]; rfl
theorem whole_chs (s : ByteArray) : wholeP (pcs 0 s.data.toList) = (chs s.data.toList).all okC := whole_eq s s.size 0 (by omega)
theorem mend_all (y : List UInt8) : ∀ (cs : List Ch) (i : Bool), cs.all okC = true → mendC y i cs = cat cs
  | [], i, _ => rfl
  | c :: cs, i, h => by
    rw [List.all_cons, Bool.and_eq_true] at h
    rw [mendC, if_pos h.1, mend_all y cs false h.2, cat_cons]
theorem mend_whole (s y : ByteArray) (h : (chs s.data.toList).all okC = true) : mend s y = s.data.toList := by
  unfold mend; rw [mend_all _ _ _ h, cat_chs]
/-- a well-formed sequence is one, whatever stands behind -/
theorem dL_more (c : Ch) (r : List UInt8) (h : chs c.2 = [c]) (ho : okC c = true) : Lib.decodeL (c.2 ++ r) = (c.1, c.2.length) := by
  have hne : c.2 ≠ [] := by intro h0; rw [h0] at h; cases h
  have hpos : 0 < c.2.length := List.length_pos_iff.2 hne
  rw [chs_cons _ hne, List.cons.injEq] at h
  obtain ⟨h1, h2⟩ := h
  have hdl : Lib.decodeL c.2 = (c.1, c.2.length) := by
    have e2 : c.2.take (Lib.decodeL c.2).2 = c.2 := congrArg Prod.snd h1
    have e3 := dL_le c.2 hne
    have e4 := congrArg List.length e2
    rw [List.length_take] at e4
    have e5 : (Lib.decodeL c.2).1 = c.1 := congrArg Prod.fst h1
    exact Prod.ext e5 (by simp only; omega)
  obtain ⟨x, l⟩ := c
  simp only at *
  by_cases h2 : 2 ≤ l.length
  · have e := hdl
    rw [Lib.decodeL_N] at e ⊢
    have g : ∀ j, j < l.length → (l ++ r).getD j 0 = l.getD j 0 := fun j hj => by
      rw [List.getD_eq_getElem?_getD, List.getD_eq_getElem?_getD, List.getElem?_append_left hj]
    rw [g 0 hpos]
    rw [Lib.decodeN_more l.length (l ++ r).length (l.getD 0 0).toNat (l.getD 1 0).toNat (l.getD 2 0).toNat (l.getD 3 0).toNat _ _ _ h2 (by simp) (by rw [e]) (fun h => by rw [g 1 h]) (fun h => by rw [g 2 h]) (fun h => by rw [g 3 h]), e]
  · have h1 : l.length = 1 := by omega
    match l, h1 with
    | [b], _ =>
      have hb : b.toNat < 128 := by
        rcases Nat.lt_or_ge b.toNat 128 with h' | h'
        · exact h'
        · exfalso
          have hs := Lib.decodeN_shape 1 b.toNat 0 0 0
          have e := hdl
          rw [Lib.decodeL_N] at e
          have e' : Lib.decodeN 1 b.toNat 0 0 0 = (x, 1) := by simpa using e
          rw [e'] at hs
          unfold okC okD at ho
          simp at ho
          rcases hs with ⟨h3, _⟩ | ⟨_, _, c1, _⟩ | ⟨_, _, c1, _⟩ | ⟨_, _, c1, _⟩ | h3
          · omega
          · simp at c1
          · simp at c1
          · simp at c1
          · simp at h3; exact ho h3
      have e := hdl
      rw [Lib.decodeL_N] at e ⊢
      simp only [List.cons_append, List.nil_append, List.getD_cons_zero] at e ⊢
      rw [Lib.decodeN_ascii _ _ _ _ _ hb] at e ⊢
      exact e
theorem chs_ok (c : Ch) (r : List UInt8) (h : chs c.2 = [c]) (ho : okC c = true) : chs (c.2 ++ r) = c :: chs r := by
  have hne : c.2 ≠ [] := by intro h0; rw [h0] at h; cases h
  rw [chs_cons _ (by simp [hne]), dL_more c r h ho]
  simp only [List.take_left, List.drop_left]
theorem chs_oks : ∀ cs : List Ch, (∀ c ∈ cs, chs c.2 = [c] ∧ okC c = true) → ∀ r, chs (cat cs ++ r) = cs ++ chs r
  | [], _, r => rfl
  | c :: cs, h, r => by
    rw [cat_cons, List.append_assoc, chs_ok c _ (h c (by simp)).1 (h c (by simp)).2, chs_oks cs (fun d hd => h d (by simp [hd])) r]
    rfl
/-- mended by a well-formed text: well-formed -/
theorem mend_is (y : List UInt8) (hy : (chs y).all okC = true) : ∀ (cs : List Ch) (i : Bool), (∀ c ∈ cs, chs c.2 = [c]) → ∃ ds, mendC y i cs = cat ds ∧ ∀ c ∈ ds, chs c.2 = [c] ∧ okC c = true
  | [], i, _ => ⟨[], rfl, fun _ h => by simp at h⟩
  | c :: cs, i, h => by
    rw [mendC]
    split
    · rename_i ho
      obtain ⟨ds, h1, h2⟩ := mend_is y hy cs false (fun d hd => h d (by simp [hd]))
      exact ⟨c :: ds, by rw [h1, cat_cons], fun d hd => by
        rcases List.mem_cons.1 hd with rfl | hd
        · exact ⟨h _ (by simp), ho⟩
        · exact h2 d hd⟩
    · obtain ⟨ds, h1, h2⟩ := mend_is y hy cs true (fun d hd => h d (by simp [hd]))
      cases i
      · refine ⟨chs y ++ ds, by rw [h1, cat_append, cat_chs]; rfl, fun d hd => ?_⟩
        rcases List.mem_append.1 hd with hd | hd
        · exact ⟨chs_mem hd, List.all_eq_true.1 hy d hd⟩
        · exact h2 d hd
      · exact ⟨ds, by rw [h1]; rfl, h2⟩
theorem mend_mend (s y : ByteArray) (hy : (chs y.data.toList).all okC = true) : (chs (mend s y)).all okC = true := by
  obtain ⟨ds, h1, h2⟩ := mend_is _ hy (chs s.data.toList) false (fun c hc => chs_mem hc)
  unfold mend
  rw [h1]
  have := chs_oks ds h2 []
  rw [List.append_nil, chs_nil, List.append_nil] at this
  rw [this]
  exact List.all_eq_true.2 fun c hc => (h2 c hc).2
end Go.Proofs.YtlgibcphfmjddaaDoor
