/-
  Plain laws of mapped texts: the form of a code point is one well-formed sequence; what a mapped text's chunks are. No condition.
-/
import Derived.Test.YtlgibcphfmjddaaDoorMend
import Derived.Lib.MapLaws
import Derived.Lib.TrimU
namespace Go.Proofs.YtlgibcphfmjddaaDoor
set_option linter.unusedVariables false

/-- a number as a code point: U+FFFD, if it is none -/
def sc (x : Int) : Nat := if (0 ≤ x ∧ x < 55296) ∨ (57343 < x ∧ x ≤ 1114111) then x.toNat else 65533
def encC (x : Int) : Ch := (sc x, Lib.encodeRune x)
theorem sc_le (x : Int) : sc x ≤ 1114111 := by unfold sc; split <;> omega
theorem byte_nat (z : Int) (h0 : 0 ≤ z) (h1 : z < 256) : (z.toNat.toUInt8).toNat = z.toNat := by
  have : z.toNat.toUInt8 = UInt8.ofNat z.toNat := rfl
  rw [this, UInt8.toNat_ofNat']; omega
theorem decN2 (n b0 b1 b2 b3 : Nat) (h0 : 194 ≤ b0) (h0' : b0 ≤ 223) (h1 : b1 / 64 = 2) (hn : 1 < n) : Lib.decodeN n b0 b1 b2 b3 = (b0 % 32 * 64 + b1 % 64, 2) := by
  unfold Lib.decodeN
  rw [if_neg (by omega), if_pos (by omega), if_pos (by omega)]
set_option maxRecDepth 20000 in
theorem dec_enc (x : Int) : Lib.decodeL (Lib.encodeRune x) = (sc x, (Lib.encodeRune x).length) := by
  rw [Lib.decodeL_N]
  by_cases hbad : x < 0 ∨ (55296 ≤ x ∧ x ≤ 57343) ∨ 1114111 < x
  · have hs : sc x = 65533 := by unfold sc; rw [if_neg (by omega)]
    unfold Lib.encodeRune; rw [Lib.encodeRuneZ_bad hbad, hs]; rfl
  · have hs : sc x = x.toNat := by unfold sc; rw [if_pos (by omega)]
    rw [hs]
    obtain ⟨n, rfl⟩ := Int.eq_ofNat_of_zero_le (show 0 ≤ x by omega)
    by_cases h1 : (n : Int) ≤ 127
    · unfold Lib.encodeRune; rw [Lib.encodeRuneZ_one (by omega) h1]
      simp only [List.map_cons, List.map_nil, List.getD_cons_zero, List.length_cons, List.length_nil]
      rw [byte_nat _ (by omega) (by omega)]
      rw [Lib.decodeN_ascii _ _ _ _ _ (by omega)]
    · by_cases h2 : (n : Int) ≤ 2047
      · unfold Lib.encodeRune; rw [Lib.encodeRuneZ_two (by omega) h2]
        simp only [List.map_cons, List.map_nil, List.getD_cons_zero, List.getD_cons_succ, List.length_cons, List.length_nil]
        rw [byte_nat _ (by omega) (by omega), byte_nat _ (by omega) (by omega)]
        unfold Lib.decodeN
        rw [if_neg (by omega), if_pos (by omega), if_pos (by omega)]
        exact Prod.ext (by simp only; omega) rfl
      · by_cases h3 : (n : Int) ≤ 65535
        · unfold Lib.encodeRune; rw [Lib.encodeRuneZ_three (by omega)]
          simp only [List.map_cons, List.map_nil, List.getD_cons_zero, List.getD_cons_succ, List.length_cons, List.length_nil]
          rw [byte_nat _ (by omega) (by omega), byte_nat _ (by omega) (by omega), byte_nat _ (by omega) (by omega)]
          unfold Lib.decodeN
          rw [if_neg (by omega), if_neg (by omega), if_pos (by omega), if_pos (by omega)]
          exact Prod.ext (by simp only; omega) rfl
        · unfold Lib.encodeRune; rw [Lib.encodeRuneZ_four (by omega) (by omega)]
          simp only [List.map_cons, List.map_nil, List.getD_cons_zero, List.getD_cons_succ, List.length_cons, List.length_nil]
          rw [byte_nat _ (by omega) (by omega), byte_nat _ (by omega) (by omega), byte_nat _ (by omega) (by omega), byte_nat _ (by omega) (by omega)]
          unfold Lib.decodeN
          rw [if_neg (by omega), if_neg (by omega), if_neg (by omega), if_pos (by omega), if_pos (by omega)]
          exact Prod.ext (by simp only; omega) rfl
theorem enc_ne (x : Int) : Lib.encodeRune x ≠ [] := by
  have := Lib.encodeRuneZ_length x
  unfold Lib.encodeRune
  rw [← List.length_pos_iff, List.length_map]; omega
theorem enc_chs (x : Int) : chs (Lib.encodeRune x) = [encC x] := by
  rw [chs_cons _ (enc_ne x), dec_enc x]
  simp only [List.take_length, List.drop_length, chs_nil]
  rfl
theorem enc_ok (x : Int) : okC (encC x) = true := by
  unfold okC okD encC
  simp only
  by_cases h : sc x = 65533
  · have hl : (Lib.encodeRune x).length ≠ 1 := by
      unfold Lib.encodeRune
      by_cases hbad : x < 0 ∨ (55296 ≤ x ∧ x ≤ 57343) ∨ 1114111 < x
      · rw [Lib.encodeRuneZ_bad hbad]; simp
      · have : x = 65533 := by unfold sc at h; rw [if_pos (by omega)] at h; omega
        subst this; decide
    simp [hl]
  · simp [h]
/-- the chunks of a mapped text -/
def mapCh (f : Int → Int) (cs : List Ch) : List Ch := cs.flatMap fun c => if 0 ≤ f (c.1 : Int) then [encC (f (c.1 : Int))] else []
theorem map_cat (f : Int → Int) : ∀ l, Lib.mapD f l = cat (mapCh f (chs l)) := by
  refine chs_ind ?_ ?_
  · rw [Lib.mapD_nil]; rfl
  · intro l hl ih
    rw [Lib.mapD_step f l hl, chs_cons l hl, ih]
    unfold mapCh
    rw [List.flatMap_cons, cat_append]
    congr 1
    split
    · simp [cat, encC]
    · rfl
theorem mapCh_ok (f : Int → Int) (cs : List Ch) : ∀ c ∈ mapCh f cs, chs c.2 = [c] ∧ okC c = true := by
  intro c hc
  obtain ⟨d, _, hd⟩ := List.mem_flatMap.1 hc
  split at hd
  · simp at hd; subst hd; exact ⟨enc_chs _, enc_ok _⟩
  · cases hd
theorem map_chs (f : Int → Int) (l : List UInt8) : chs (Lib.mapD f l) = mapCh f (chs l) := by
  have h := chs_oks _ (mapCh_ok f (chs l)) []
  rw [List.append_nil, chs_nil, List.append_nil, ← map_cat] at h
  exact h
theorem map_whole (f : Int → Int) (l : List UInt8) : (chs (Lib.mapD f l)).all okC = true := by
  rw [map_chs]; exact List.all_eq_true.2 fun c hc => (mapCh_ok f _ c hc).2
theorem pcs_count (l : List UInt8) (pos : Nat) : (pcs pos l).length = (chs l).length := by rw [pcs_lay, lay_length]
/-- mapped to itself -/
theorem map_self (l : List UInt8) (h : (chs l).all okC = true) : Lib.mapD (fun x => x) l = l := by
  revert h
  refine chs_ind (motive := fun l => (chs l).all okC = true → Lib.mapD (fun x => x) l = l) (fun _ => rfl) ?_ l
  intro l hl ih h
  rw [chs_cons l hl, List.all_cons, Bool.and_eq_true] at h
  rw [Lib.mapD_same _ l hl rfl ?_, ih h.2, List.take_append_drop]
  intro hv
  have := h.1
  have hle := dL_le l hl
  unfold okC okD at this
  simp only [List.length_take] at this
  rw [hv.1, hv.2] at this
  have hm : min 1 l.length = 1 := by rw [hv.2] at hle; omega
  rw [hm] at this
  simp at this
theorem self_count (l : List UInt8) : (chs (Lib.mapD (fun x => x) l)).length = (chs l).length := by
  rw [map_chs]
  unfold mapCh
  induction chs l with
  | nil => rfl
  | cons c cs ih => rw [List.flatMap_cons, List.length_append, ih, if_pos (show 0 ≤ (fun x : Int => x) (c.1 : Int) from Int.natCast_nonneg _)]; simp; omega
theorem self_same (l : List UInt8) : Lib.mapD (fun x => x) l = l ↔ (chs l).all okC = true :=
  ⟨fun h => by have := map_whole (fun x => x) l; rw [h] at this; exact this, map_self l⟩
end Go.Proofs.YtlgibcphfmjddaaDoor
