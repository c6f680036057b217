/-
  Plain laws of the pieces of a text: which code point stands at a place, how many bytes it has, whether it is a well-formed sequence. No condition.
-/
import Derived.Lib.TrimU
import Derived.Lib.TrimUEq
import Derived.Lib.DecodeN
import Derived.Lib.MapLaws
import Derived.Lib.RuneCountTail
import Derived.Lib.QuoteLoop
namespace Go.Proofs.YtlgibcphfmjddaaDoor
set_option linter.unusedVariables false

/-- one piece: where it stands, how many bytes it has, which code point it is, whether it is a sequence -/
structure Pc where
  at_ : Nat
  size : Nat
  r : Nat
  ok : Bool

/-- is it a sequence? -/
def okD (d : Nat × Nat) : Bool := !(d.1 == 65533 && d.2 == 1)
def pcsF : Nat → Nat → List UInt8 → List Pc
  | 0, _, _ => []
  | f + 1, pos, l => if l = [] then [] else ⟨pos, (Lib.decodeL l).2, (Lib.decodeL l).1, okD (Lib.decodeL l)⟩ :: pcsF f (pos + (Lib.decodeL l).2) (l.drop (Lib.decodeL l).2)
/-- the pieces of a text that begins at a place -/
def pcs (pos : Nat) (l : List UInt8) : List Pc := pcsF l.length pos l

theorem dL_pos (l : List UInt8) : 1 ≤ (Lib.decodeL l).2 := Lib.decodeL_width l
theorem dL_le (l : List UInt8) (h : l ≠ []) : (Lib.decodeL l).2 ≤ l.length := Lib.decodeL_le l h
theorem pcsF_more : ∀ (f g pos : Nat) (l : List UInt8), l.length ≤ f → l.length ≤ g → pcsF f pos l = pcsF g pos l
  | 0, g, pos, l, hf, hg => by
    have : l = [] := List.length_eq_zero_iff.1 (by omega)
    subst this
    cases g <;> simp [pcsF]
  | f + 1, 0, pos, l, hf, hg => by
    have : l = [] := List.length_eq_zero_iff.1 (by omega)
    subst this
    simp [pcsF]
  | f + 1, g + 1, pos, l, hf, hg => by
    simp only [pcsF]
    split
    · rfl
    · rename_i hne
      have h1 := dL_pos l
      have h2 : 0 < l.length := List.length_pos_iff.2 hne
      rw [pcsF_more f g _ _ (by rw [List.length_drop]; omega) (by rw [List.length_drop]; omega)]
theorem pcs_nil (pos : Nat) : pcs pos [] = [] := rfl
theorem pcs_cons (pos : Nat) (l : List UInt8) (h : l ≠ []) : pcs pos l = ⟨pos, (Lib.decodeL l).2, (Lib.decodeL l).1, okD (Lib.decodeL l)⟩ :: pcs (pos + (Lib.decodeL l).2) (l.drop (Lib.decodeL l).2) := by
  unfold pcs
  have h2 : 0 < l.length := List.length_pos_iff.2 h
  have h1 := dL_pos l
  obtain ⟨n, hn⟩ : ∃ n, l.length = n + 1 := ⟨l.length - 1, by omega⟩
  rw [hn]
  simp only [pcsF, if_neg h]
  rw [pcsF_more n _ _ _ (by rw [List.length_drop]; omega) (Nat.le_refl _)]
/-- at most a piece a byte -/
theorem pcs_len : ∀ (n : Nat) (pos : Nat) (l : List UInt8), l.length ≤ n → (pcs pos l).length ≤ l.length
  | 0, pos, l, h => by
    have : l = [] := List.length_eq_zero_iff.1 (by omega)
    subst this; simp [pcs_nil]
  | n + 1, pos, l, h => by
    by_cases hl : l = []
    · subst hl; simp [pcs_nil]
    · rw [pcs_cons pos l hl]
      have h1 := dL_pos l
      have h2 : 0 < l.length := List.length_pos_iff.2 hl
      have := pcs_len n (pos + (Lib.decodeL l).2) (l.drop (Lib.decodeL l).2) (by rw [List.length_drop]; omega)
      rw [List.length_drop] at this
      simp only [List.length_cons]; omega
/-- the decoder at a place is the decoder of what stands there -/
theorem decode_drop (s : ByteArray) (pos : Nat) : Utf8.decode s pos = Lib.decodeL (s.data.toList.drop pos) := by
  rw [Lib.decode_N, Lib.decodeL_N]
  simp [List.getD_eq_getElem?_getD]

/-! the reference's own look at the bytes -/
theorem gb (s : ByteArray) (k : Nat) (h : k < s.size) : s.get! k = s[k] := by
  show s.data[k]! = _
  rw [getElem!_pos s.data k (by simpa using h)]; rfl
/-- so many bytes of 80 to bf -/
def fol (s : ByteArray) (k : Nat) : Nat → Bool
  | 0 => true
  | m + 1 => fol s k m && (decide (k + m < s.size) && ((s.get! (k + m)).toNat / 64 == 2))
theorem fol_short (s : ByteArray) (k m : Nat) (hm : 0 < m) (h : s.size < k + m) : fol s k m = false := by
  obtain ⟨n, rfl⟩ : ∃ n, m = n + 1 := ⟨m - 1, by omega⟩
  have : decide (k + n < s.size) = false := by simp; omega
  simp [fol, this]
theorem fol_stop (s : ByteArray) (k j : Nat) (hj : k + j < s.size) (hb : (s[k + j].toNat : Int) < 128 ∨ 191 < (s[k + j].toNat : Int)) : ∀ m, j < m → fol s k m = false
  | m + 1, h => by
    rcases Nat.lt_succ_iff_lt_or_eq.1 h with h | rfl
    · simp [fol, fol_stop s k j hj hb m h]
    · have : ((s.get! (k + j)).toNat / 64 == 2) = false := by rw [gb s _ hj]; simp; omega
      simp [fol, this]
theorem fol_step (s : ByteArray) (k j : Nat) (hj : k + j < s.size) (h0 : fol s k j = true) (h1 : 128 ≤ (s[k + j].toNat : Int)) (h2 : (s[k + j].toNat : Int) ≤ 191) : fol s k (j + 1) = true := by
  have : ((s.get! (k + j)).toNat / 64 == 2) = true := by rw [gb s _ hj]; simp; omega
  simp [fol, h0, hj, this]
theorem fol_stop' (s : ByteArray) (k i m : Nat) (hk : k ≤ i) (hi : i < s.size) (hm : i < k + m) (hb : (s[i].toNat : Int) < 128 ∨ 191 < (s[i].toNat : Int)) : fol s k m = false := by
  obtain ⟨j, rfl⟩ : ∃ j, i = k + j := ⟨i - k, by omega⟩
  exact fol_stop s k j hi hb m (by omega)
theorem fol_step' (s : ByteArray) (k i : Nat) (hk : k ≤ i) (hi : i < s.size) (h0 : fol s k (i - k) = true) (h1 : 128 ≤ (s[i].toNat : Int)) (h2 : (s[i].toNat : Int) ≤ 191) : fol s k (i + 1 - k) = true := by
  obtain ⟨j, rfl⟩ : ∃ j, i = k + j := ⟨i - k, by omega⟩
  rw [show k + j - k = j by omega] at h0
  rw [show k + j + 1 - k = j + 1 by omega]
  exact fol_step s k j hi h0 h1 h2
/-- what the reference's 'sequence' answers -/
def seqAt (s : ByteArray) (k : Nat) : Int := if okD (Utf8.decode s k) then ((Utf8.decode s k).2 : Int) else 0

theorem fol1 (s : ByteArray) (k : Nat) : fol s (k + 1) 1 = true ↔ (1 < s.size - k ∧ (s.get! (k + 1)).toNat / 64 = 2) := by
  simp [fol]; omega
theorem fol2 (s : ByteArray) (k : Nat) : fol s (k + 1) 2 = true ↔ (1 < s.size - k ∧ (s.get! (k + 1)).toNat / 64 = 2) ∧ (2 < s.size - k ∧ (s.get! (k + 2)).toNat / 64 = 2) := by
  simp [fol]
  rw [show k + 1 + 1 = k + 2 by omega]
  omega
theorem fol3 (s : ByteArray) (k : Nat) : fol s (k + 1) 3 = true ↔ (1 < s.size - k ∧ (s.get! (k + 1)).toNat / 64 = 2) ∧ (2 < s.size - k ∧ (s.get! (k + 2)).toNat / 64 = 2) ∧ (3 < s.size - k ∧ (s.get! (k + 3)).toNat / 64 = 2) := by
  simp [fol]
  rw [show k + 1 + 1 = k + 2 by omega, show k + 1 + 2 = k + 3 by omega]
  omega

theorem seq_of {s : ByteArray} {k r n : Nat} (h : Utf8.decode s k = (r, n)) : seqAt s k = if okD (r, n) then (n : Int) else 0 := by unfold seqAt; rw [h]
theorem bad_eq : okD (65533, 1) = false := rfl
theorem seq_bad {s : ByteArray} {k : Nat} (h : Utf8.decode s k = (65533, 1)) : 0 = seqAt s k := by rw [seq_of h]; rfl
section
variable (s : ByteArray) (k : Nat) (hk : k < s.size)
theorem seq_ascii (h : s[k].toNat < 128) : 1 = seqAt s k := by
  have hd : Utf8.decode s k = (s[k].toNat, 1) := by
    rw [Lib.decode_at, gb s k hk]; unfold Lib.decodeN; rw [if_pos h]
  rw [seq_of hd]
  have : (s[k].toNat == 65533) = false := by simp; omega
  simp [okD, this]
theorem seq_low (h1 : 128 ≤ s[k].toNat) (h2 : s[k].toNat < 194) : 0 = seqAt s k := by
  apply seq_bad
  rw [Lib.decode_at, gb s k hk]
  have hb := UInt8.toNat_lt (s.get! (k + 1))
  unfold Lib.decodeN; rw [if_neg (by omega)]
  by_cases c : s[k].toNat / 32 = 6 ∧ (1 < s.size - k ∧ (s.get! (k + 1)).toNat / 64 = 2)
  · rw [if_pos c, if_neg (by omega)]
  · rw [if_neg c, if_neg (by omega), if_neg (by omega)]
theorem seq_two (h1 : 194 ≤ s[k].toNat) (h2 : s[k].toNat ≤ 223) : (if fol s (k + 1) 1 then (2 : Int) else 0) = seqAt s k := by
  cases hf : fol s (k + 1) 1
  · apply seq_bad
    rw [Lib.decode_at, gb s k hk]; unfold Lib.decodeN; rw [if_neg (by omega)]
    have hn : ¬ (1 < s.size - k ∧ (s.get! (k + 1)).toNat / 64 = 2) := fun h => by rw [(fol1 s k).2 h] at hf; cases hf
    rw [if_neg (fun h => hn h.2), if_neg (by omega), if_neg (by omega)]
  · have hn := (fol1 s k).1 hf
    have hd : Utf8.decode s k = (s[k].toNat % 32 * 64 + (s.get! (k + 1)).toNat % 64, 2) := by
      rw [Lib.decode_at, gb s k hk]; unfold Lib.decodeN; rw [if_neg (by omega), if_pos ⟨by omega, hn⟩, if_pos (by omega)]
    rw [seq_of hd]; simp [okD]
theorem seq_three_no (h1 : 224 ≤ s[k].toNat) (h2 : s[k].toNat ≤ 239) (hf : fol s (k + 1) 2 = false) : 0 = seqAt s k := by
  apply seq_bad
  rw [Lib.decode_at, gb s k hk]
  unfold Lib.decodeN; rw [if_neg (by omega), if_neg (by omega)]
  have hn : ¬ ((1 < s.size - k ∧ (s.get! (k + 1)).toNat / 64 = 2) ∧ (2 < s.size - k ∧ (s.get! (k + 2)).toNat / 64 = 2)) := fun h => by rw [(fol2 s k).2 h] at hf; cases hf
  rw [if_neg (fun h => hn h.2), if_neg (by omega)]
theorem fol2_lt (hf : fol s (k + 1) 2 = true) : k + 1 < s.size := by have := (fol2 s k).1 hf; omega
theorem fol3_lt (hf : fol s (k + 1) 3 = true) : k + 1 < s.size := by have := (fol3 s k).1 hf; omega
theorem seq_three (h1 : 224 ≤ s[k].toNat) (h2 : s[k].toNat ≤ 239) (hf : fol s (k + 1) 2 = true) :
    (if (s[k].toNat = 224 ∧ (s[k + 1]'(fol2_lt s k hf)).toNat < 160) ∨ (s[k].toNat = 237 ∧ 159 < (s[k + 1]'(fol2_lt s k hf)).toNat) then (0 : Int) else 3) = seqAt s k := by
  have hlt := fol2_lt s k hf
  have hn := (fol2 s k).1 hf
  rw [gb s (k + 1) hlt] at hn
  have b1 := UInt8.toNat_lt s[k + 1]
  by_cases c : (s[k].toNat = 224 ∧ s[k + 1].toNat < 160) ∨ (s[k].toNat = 237 ∧ 159 < s[k + 1].toNat)
  · rw [if_pos c]; apply seq_bad
    rw [Lib.decode_at, gb s k hk, gb s (k + 1) hlt]
    unfold Lib.decodeN; rw [if_neg (by omega), if_neg (by omega), if_pos ⟨by omega, hn⟩, if_neg (by omega)]
  · have hd : Utf8.decode s k = (s[k].toNat % 16 * 4096 + s[k + 1].toNat % 64 * 64 + (s.get! (k + 2)).toNat % 64, 3) := by
      rw [Lib.decode_at, gb s k hk, gb s (k + 1) hlt]
      unfold Lib.decodeN; rw [if_neg (by omega), if_neg (by omega), if_pos ⟨by omega, hn⟩, if_pos (by omega)]
    rw [if_neg c, seq_of hd]; simp [okD]
theorem seq_four_no (h1 : 240 ≤ s[k].toNat) (h2 : s[k].toNat ≤ 244) (hf : fol s (k + 1) 3 = false) : 0 = seqAt s k := by
  apply seq_bad
  rw [Lib.decode_at, gb s k hk]
  unfold Lib.decodeN; rw [if_neg (by omega), if_neg (by omega), if_neg (by omega)]
  have hn : ¬ ((1 < s.size - k ∧ (s.get! (k + 1)).toNat / 64 = 2) ∧ (2 < s.size - k ∧ (s.get! (k + 2)).toNat / 64 = 2) ∧ (3 < s.size - k ∧ (s.get! (k + 3)).toNat / 64 = 2)) := fun h => by rw [(fol3 s k).2 h] at hf; cases hf
  rw [if_neg (fun h => hn h.2)]
theorem seq_four (h1 : 240 ≤ s[k].toNat) (h2 : s[k].toNat ≤ 244) (hf : fol s (k + 1) 3 = true) :
    (if (s[k].toNat = 240 ∧ (s[k + 1]'(fol3_lt s k hf)).toNat < 144) ∨ (s[k].toNat = 244 ∧ 143 < (s[k + 1]'(fol3_lt s k hf)).toNat) then (0 : Int) else 4) = seqAt s k := by
  have hlt := fol3_lt s k hf
  have hn := (fol3 s k).1 hf
  rw [gb s (k + 1) hlt] at hn
  have b1 := UInt8.toNat_lt s[k + 1]
  by_cases c : (s[k].toNat = 240 ∧ s[k + 1].toNat < 144) ∨ (s[k].toNat = 244 ∧ 143 < s[k + 1].toNat)
  · rw [if_pos c]; apply seq_bad
    rw [Lib.decode_at, gb s k hk, gb s (k + 1) hlt]
    unfold Lib.decodeN; rw [if_neg (by omega), if_neg (by omega), if_neg (by omega), if_pos ⟨by omega, hn⟩, if_neg (by omega)]
  · have hd : Utf8.decode s k = (s[k].toNat % 8 * 262144 + s[k + 1].toNat % 64 * 4096 + (s.get! (k + 2)).toNat % 64 * 64 + (s.get! (k + 3)).toNat % 64, 4) := by
      rw [Lib.decode_at, gb s k hk, gb s (k + 1) hlt]
      unfold Lib.decodeN; rw [if_neg (by omega), if_neg (by omega), if_neg (by omega), if_pos ⟨by omega, hn⟩, if_pos (by omega)]
    rw [if_neg c, seq_of hd]; simp [okD]
theorem seq_high (h : 245 ≤ s[k].toNat) : 0 = seqAt s k := by
  apply seq_bad
  rw [Lib.decode_at, gb s k hk]
  have b0 := UInt8.toNat_lt s[k]
  have b1 := UInt8.toNat_lt (s.get! (k + 1))
  unfold Lib.decodeN; rw [if_neg (by omega), if_neg (by omega), if_neg (by omega)]
  by_cases c : s[k].toNat / 8 = 30 ∧ (1 < s.size - k ∧ (s.get! (k + 1)).toNat / 64 = 2) ∧ (2 < s.size - k ∧ (s.get! (k + 2)).toNat / 64 = 2) ∧ (3 < s.size - k ∧ (s.get! (k + 3)).toNat / 64 = 2)
  · rw [if_pos c, if_neg (by omega)]
  · rw [if_neg c]
end
/-- what the reference's 'point' answers: the bytes' bits, one after the other -/
def ptAt (s : ByteArray) (k : Nat) : Nat → Int → Int
  | 0, r => r
  | m + 1, r => ptAt s (k + 1) m (64 * r + ((s.get! k).toNat : Int) - 128)
theorem dec_ok_cases (s : ByteArray) (k : Nat) (hk : k < s.size) (h : okD (Utf8.decode s k) = true) :
    ((Utf8.decode s k).2 = 1 ∧ ((Utf8.decode s k).1 : Int) = (s[k].toNat : Int)) ∨
    ((Utf8.decode s k).2 = 2 ∧ k + 2 ≤ s.size ∧ ((Utf8.decode s k).1 : Int) = ptAt s (k + 1) 1 ((s[k].toNat : Int) - 192) ∧ 192 ≤ s[k].toNat) ∨
    ((Utf8.decode s k).2 = 3 ∧ k + 3 ≤ s.size ∧ ((Utf8.decode s k).1 : Int) = ptAt s (k + 1) 2 ((s[k].toNat : Int) - 224) ∧ 224 ≤ s[k].toNat) ∨
    ((Utf8.decode s k).2 = 4 ∧ k + 4 ≤ s.size ∧ ((Utf8.decode s k).1 : Int) = ptAt s (k + 1) 3 ((s[k].toNat : Int) - 240) ∧ 240 ≤ s[k].toNat) := by
  rw [Lib.decode_at, gb s k hk] at h ⊢
  have b0 := UInt8.toNat_lt s[k]
  have b1 := UInt8.toNat_lt (s.get! (k + 1))
  have b2 := UInt8.toNat_lt (s.get! (k + 2))
  have b3 := UInt8.toNat_lt (s.get! (k + 3))
  simp only [ptAt, show k + 1 + 1 = k + 2 by omega, show k + 2 + 1 = k + 3 by omega]
  generalize s[k].toNat = x0 at *
  generalize (s.get! (k + 1)).toNat = x1 at *
  generalize (s.get! (k + 2)).toNat = x2 at *
  generalize (s.get! (k + 3)).toNat = x3 at *
  unfold Lib.decodeN at h ⊢
  by_cases c0 : x0 < 128
  · rw [if_pos c0] at h ⊢; left; exact ⟨rfl, rfl⟩
  · rw [if_neg c0] at h ⊢
    by_cases c1 : x0 / 32 = 6 ∧ 1 < s.size - k ∧ x1 / 64 = 2
    · rw [if_pos c1] at h ⊢
      split at h
      · rename_i c; rw [if_pos c]; right; left; exact ⟨rfl, by omega, by simp only; omega, by omega⟩
      · rw [bad_eq] at h; cases h
    · rw [if_neg c1] at h ⊢
      split at h
      · rename_i c2; rw [if_pos c2]
        split at h
        · rename_i c; rw [if_pos c]; right; right; left; exact ⟨rfl, by omega, by simp only; omega, by omega⟩
        · rw [bad_eq] at h; cases h
      · rename_i c2; rw [if_neg c2]
        split at h
        · rename_i c3; rw [if_pos c3]
          split at h
          · rename_i c; rw [if_pos c]; right; right; right; exact ⟨rfl, by omega, by simp only; omega, by omega⟩
          · rw [bad_eq] at h; cases h
        · rw [bad_eq] at h; cases h
theorem dec_bad (s : ByteArray) (k : Nat) (h : okD (Utf8.decode s k) = false) : Utf8.decode s k = (65533, 1) := by
  unfold okD at h; simp at h; exact Prod.ext h.1 h.2
end Go.Proofs.YtlgibcphfmjddaaDoor
