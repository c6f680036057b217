/-
  The contract of the reference's split at line feeds, lines and Lines. Condition: the text's length is at most 2^40.
-/
import Derived.Test.YtmfjmikiebijgaaLineIt
namespace Go.Proofs.Ytmfjmikiebijgaa
open Go.RowKit
set_option linter.unusedVariables false

/-- the parts of bytes, each with its line feed; the last one may be empty -/
def splC : List UInt8 → List UInt8 → List (List UInt8)
  | cur, [] => [cur]
  | cur, c :: r => if c = 10 then (cur ++ [c]) :: splC [] r else splC (cur ++ [c]) r
theorem spl_lin : ∀ (l cur : List UInt8), ∃ D x, splC cur l = D ++ [x] ∧ linC cur l = if x = [] then D else D ++ [x]
  | [], cur => ⟨[], cur, rfl, by simp [linC]⟩
  | c :: l, cur => by
    by_cases hc : c = 10
    · obtain ⟨D, x, h1, h2⟩ := spl_lin l []
      refine ⟨(cur ++ [c]) :: D, x, by simp [splC, hc, h1], ?_⟩
      simp only [linC, hc, if_true, h2]
      split <;> simp
    · obtain ⟨D, x, h1, h2⟩ := spl_lin l (cur ++ [c])
      exact ⟨D, x, by simp [splC, hc, h1], by simp [linC, hc, h2]⟩
/-- where the loop stands: at place k, the part under way began at f, done has been told -/
def SplRel (s : ByteArray) (f k : Nat) (done : List ByteArray) : Prop :=
  (splC [] s.data.toList).map ofL = done ++ (splC ((s.data.toList.drop f).take (k - f)) (s.data.toList.drop k)).map ofL ∧ f ≤ k ∧ k ≤ s.size ∧ done.length ≤ k
theorem spl_start (s : ByteArray) : SplRel s 0 0 [] := ⟨by simp, Nat.le_refl _, Nat.zero_le _, Nat.le_refl _⟩
theorem take_step (s : ByteArray) (f k : Nat) (hf : f ≤ k) (hk : k < s.size) : (s.data.toList.drop f).take (k + 1 - f) = (s.data.toList.drop f).take (k - f) ++ [s[k]] := by
  rw [show k + 1 - f = (k - f) + 1 by omega, List.take_succ_eq_append_getElem (by rw [List.length_drop, len_data]; omega)]
  congr 2
  simp [show f + (k - f) = k by omega]
  rfl
theorem spl_miss {s : ByteArray} {f k : Nat} {done : List ByteArray} (h : SplRel s f k done) (hk : k < s.size) (hc : s[k] ≠ 10) : SplRel s f (k + 1) done := by
  obtain ⟨h1, h2, h3, h4⟩ := h
  refine ⟨?_, by omega, by omega, by omega⟩
  rw [h1, drop_get s k hk, take_step s f k h2 hk]
  simp [splC, hc]
theorem spl_hit {s : ByteArray} {f k : Nat} {done : List ByteArray} (h : SplRel s f k done) (hk : k < s.size) (hc : s[k] = 10) : SplRel s (k + 1) (k + 1) (done ++ [s.extract f (k + 1)]) := by
  obtain ⟨h1, h2, h3, h4⟩ := h
  refine ⟨?_, by omega, by omega, by simp; omega⟩
  rw [h1, drop_get s k hk]
  have hx : ofL ((s.data.toList.drop f).take (k - f) ++ [s[k]]) = s.extract f (k + 1) := by rw [← take_step s f k h2 hk, ofL_extract]
  simp only [splC, hc, if_true, List.map_cons]
  rw [hc] at hx
  rw [hx]
  simp
theorem spl_end {s : ByteArray} {f : Nat} {done : List ByteArray} (h : SplRel s f s.size done) : (splC [] s.data.toList).map ofL = done ++ [s.extract f s.size] := by
  rw [h.1, drop_end s _ (Nat.le_refl _)]
  simp only [splC, List.map_cons, List.map_nil]
  rw [ofL_extract]
theorem one_extract (s : ByteArray) (k : Nat) (hk : k < s.size) : s.extract k (k + 1) = ⟨#[s[k]]⟩ := by
  rw [← ofL_extract, drop_get s k hk]
  simp [ofL]
theorem strs_snoc (l : List ByteArray) (x : ByteArray) : strs (l ++ [x]) = strs l ++ [.string x] := by simp [strs]

set_option maxRecDepth 100000 in
set_option maxHeartbeats 4000000 in
theorem spec_split (s : ByteArray) (w : World) (hs : s.size ≤ 1099511627776) :
    Calls Try.prog 56 #[.string s, .string ⟨#[10]⟩, .bool true, .int .i64 (-1)] w (NewStrs ((splC [] s.data.toList).map ofL) w) := by
  obtain ⟨i0, hi, hz0, hz1, hz2⟩ := info_parts Try.infoStr
  go_enter Try.func56, Try.ntmps56
  go_wp2
  go_loopw [9, 10, 11] (fun v vf vi wr => ∃ (f k : Nat) (done : List ByteArray), vf = .int .i64 (f : Int) ∧ vi = .int .i64 (k : Int) ∧ f ≤ k ∧ k ≤ s.size ∧ Hid (SplRel s f k done) ∧ Hid (wr.ownsRow w.heap.size 9 1 v done.length (strs done)) ∧ Hid (v ≠ .slice none 0 0) ∧ Hid (Below w.heap.size w wr)) (fun _ _ vi _ => s.size - (intOf vi).toNat)
  case atStart => exact ⟨0, 0, [], rfl, rfl, Nat.le_refl _, Nat.zero_le _, spl_start s, World.ownsRow_lit w #[] 0 (Nat.le_refl _) (Nat.zero_le _) rfl, (fun h => by cases h), (Below.refl _ w).alloc (Nat.le_refl _) _⟩
  case round =>
    obtain ⟨f, k, done, rfl, rfl, hfk, hks, HR, HO, HV, HB⟩ := hrel
    have hsz := HB.out.size
    have hdl : done.length ≤ k := HR.out.2.2.2
    by_cases hlt : k < s.size
    · have hle1 : decide ((k : Int) + 1 ≤ (s.size : Int)) = true := by simp; omega
      have hex := one_extract s k hlt
      by_cases hc : s[k] = 10
      · have HN := Lib.hid (spl_hit HR.out hlt hc)
        have he1 : ((s.extract k (k + 1)).toList == [10]) = true := by rw [hex, hc, Lib.toList_data]; rfl
        clear hex hc
        go_wp2_with (at_builtin; refine wpList_append_own _ rfl _ _ 32 rfl w.heap.size 9 i0 (.string ⟨#[]⟩) 1 16 Try.underlying32 hi hz0 hz1 hz2 rfl (by decide) u9 done.length (strs done) rfl (HO.out.alloc _) ⟨wr.heap.size, 0, none⟩ 1 1 [.string (s.extract f (k + 1))] rfl rfl (cell_one_new _ _ _) (str_one _) (by unfold maxLen; omega) (by omega) (by simp; omega) ?_; intro v' w3 hown3 hgrow3 hnil3)
        have hV3 : v' ≠ .slice none 0 0 := fun h => HV.out (hnil3.1 h).1
        have hO3 : w3.ownsRow w.heap.size 9 1 v' (done ++ [s.extract f (k + 1)]).length (strs (done ++ [s.extract f (k + 1)])) := by rw [strs_snoc, List.length_append]; exact hown3
        have hB3 := (HB.out.alloc hsz (.cells #[.string (s.extract f (k + 1))] 9)).grown hgrow3 (by simp; omega) (fun q h => ((HO.out.alloc (.cells #[.string (s.extract f (k + 1))] 9)).lt q h).1)
        exact ⟨⟨k + 1, k + 1, _, by go_num, by go_num, Nat.le_refl _, by omega, HN.out, hO3, hV3, hB3⟩, by simp [intOf]; omega⟩
      · have HN := Lib.hid (spl_miss HR.out hlt hc)
        have he1 : ((s.extract k (k + 1)).toList == [10]) = false := by rw [hex, Lib.toList_data]; simp [hc]
        clear hex hc
        go_wp2
        exact ⟨⟨f, k + 1, done, rfl, by go_num, by omega, by omega, HN.out, HO.out, HV.out, HB.out⟩, by simp [intOf]; omega⟩
    · obtain rfl : k = s.size := by omega
      have hle1 : decide ((s.size : Int) + 1 ≤ (s.size : Int)) = false := by simp; omega
      have HE := Lib.hid (spl_end HR.out)
      go_wp2_with (at_builtin; refine wpList_append_own _ rfl _ _ 32 rfl w.heap.size 9 i0 (.string ⟨#[]⟩) 1 16 Try.underlying32 hi hz0 hz1 hz2 rfl (by decide) u9 done.length (strs done) rfl (HO.out.alloc _) ⟨wr.heap.size, 0, none⟩ 1 1 [.string (s.extract f s.size)] rfl rfl (cell_one_new _ _ _) (str_one _) (by unfold maxLen; omega) (by omega) (by simp; omega) ?_; intro v' w3 hown3 hgrow3 hnil3)
      have hV3 : v' ≠ .slice none 0 0 := fun h => HV.out (hnil3.1 h).1
      have hO3 : w3.ownsRow w.heap.size 9 1 v' (done ++ [s.extract f s.size]).length (strs (done ++ [s.extract f s.size])) := by rw [strs_snoc, List.length_append]; exact hown3
      have hB3 := (HB.out.alloc hsz (.cells #[.string (s.extract f s.size)] 9)).grown hgrow3 (by simp; omega) (fun q h => ((HO.out.alloc (.cells #[.string (s.extract f s.size)] 9)).lt q h).1)
      obtain ⟨g', c', hv⟩ := own_some hO3 hV3
      go_ret
      refine ⟨g', c', ?_, ?_, hB3⟩
      · rw [HE.out, ← hv]; rfl
      · rw [HE.out]; rw [hv] at hO3; exact hO3
/-- a list of texts, somewhere in memory -/
def StrsAt (l : List ByteArray) (w : World) (e : Ending) (w' : World) : Prop :=
  ∃ a c, e = .returned (.slice a l.length c) ∧ Lies w' w'.heap.size 1 a l.length (strs l) ∧ Below w.heap.size w w'
theorem Lies.init {w : World} {B n m : Nat} {a : Option Addr} {xs ys : List Value} (h : Lies w B 1 a n (xs ++ ys)) (hm : xs.length = m) : Lies w B 1 a m xs := by
  have h1 := h.1
  rw [List.length_append] at h1
  refine ⟨by omega, fun hp => ?_⟩
  obtain ⟨g, o, e, hg, hc⟩ := h.2 (by omega)
  exact ⟨g, o, e, hg, fun j hj => by have := hc j (by simp; omega); rw [this, List.getElem_append_left hj]⟩
set_option maxRecDepth 100000 in
set_option maxHeartbeats 2000000 in
theorem spec_lines (s : ByteArray) (w : World) (hs : s.size ≤ 1099511627776) :
    Calls Try.prog 43 #[.string s] w (StrsAt (linesB s) w) := by
  have hlen := linesB_len s
  obtain ⟨D, x, h1, h2⟩ := spl_lin s.data.toList []
  have HC := Lib.hid (spec_split s w hs)
  have hl : linesB s = if ofL x = ofL [] then D.map ofL else D.map ofL ++ [ofL x] := by
    unfold linesB
    rw [h2]
    by_cases hx : x = []
    · rw [if_pos hx, if_pos (by rw [hx])]
    · rw [if_neg hx, if_neg (fun e => hx (by unfold ofL at e; simpa using e))]; simp
  have hdn : D.length ≤ s.size := by
    rw [hl] at hlen
    split at hlen <;> simp at hlen <;> omega
  have hsp : (splC [] s.data.toList).map ofL = D.map ofL ++ [ofL x] := by rw [h1]; simp
  have HL := Lib.hid hl
  have HSP := Lib.hid hsp
  have hnm : (D.map ofL).length = D.length := by simp
  generalize hDD : D.map ofL = DD at *
  generalize hX : ofL x = X at *
  clear hl hsp h1 h2 hlen hDD hX
  go_enter Try.func43, Try.ntmps43
  go_wp2_with fail
  refine HC.out.mono ?_; rw [HSP.out]; rintro e w1 ⟨g, c, rfl, ho, hb⟩
  have hlast : w1.cell? ⟨g, DD.length, none⟩ = some (.string X) := by
    have := ho.cellAt DD.length (by simp); rw [this]; simp [strs]
  have hcap : DD.length + 1 ≤ c := by have := own_cap ho; simpa using this
  have HLi := Lib.hid (show Lies w1 w1.heap.size 1 (some ⟨g, 0, none⟩) (DD ++ [X]).length (strs (DD ++ [X])) from Lies.of_own ho)
  have HB := Lib.hid hb
  have hDl : DD.length ≤ 1099511627776 := by omega
  have hnn : (DD ++ [X]).length = DD.length + 1 := by simp
  rw [hnn]
  have HNN := Lib.hid hnn
  clear ho hb hnn hnm
  by_cases hx : X = ofL []
  · have hxe : X.toList.isEmpty = true := by rw [hx, Lib.toList_data]; rfl
    have HE := Lib.hid (show linesB s = DD by rw [HL.out, if_pos hx])
    have HLi2 := Lib.hid (show Lies w1 w1.heap.size 1 (some ⟨g, 0, none⟩) DD.length (strs DD) from Lies.init (by have := HLi.out; rw [strs_snoc] at this; exact this) (by simp [strs]))
    clear hx
    go_wp2_with fail
    go_ret
    exact ⟨_, _, by rw [HE.out]; rfl, by rw [HE.out]; exact HLi2.out, HB.out⟩
  · have hxe2 : X.toList.isEmpty = false := by
      rw [Lib.toList_data]
      cases h : X.data.toList with
      | nil => exact absurd (by cases X; simp at h; subst h; rfl) hx
      | cons b t => rfl
    have HE := Lib.hid (show linesB s = DD ++ [X] by rw [HL.out, if_neg hx])
    clear hx
    go_wp2_with fail
    go_ret
    exact ⟨_, _, by rw [HE.out, HNN.out]; rfl, by rw [HE.out]; exact HLi.out, HB.out⟩
set_option maxHeartbeats 1000000 in
theorem spec_Lines (s : ByteArray) (w : World) (hs : s.size ≤ 1099511627776) :
    Calls Try.prog 26 #[.string s] w (StrsAt (linesB s) w) := by
  go_enter Try.func26, Try.ntmps26
  go_wp2_with (go_at_call 43; refine (spec_lines s _ hs).mono ?_; rintro e w' ⟨a, c, rfl, ho, hb⟩)
  go_ret
  exact ⟨a, c, rfl, ho, hb⟩
end Go.Proofs.Ytmfjmikiebijgaa
