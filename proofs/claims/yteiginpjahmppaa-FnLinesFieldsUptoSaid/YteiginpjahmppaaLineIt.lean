/-
  The library's Lines: what its iterator tells. Condition: the text's length is at most 2^47.
-/
import Derived.Test.YteiginpjahmppaaGath
import Derived.Test.YteiginpjahmppaaNewS
import Derived.Test.YteiginpjahmppaaShelf
import Derived.RegionTactic
import Derived.ChangeAlike
namespace Go.Proofs.Yteiginpjahmppaa
open Go.RowKit Go.Shelf
set_option linter.unusedVariables false
attribute [local go_sem] Oper.semAt_some

/-- the lines of bytes, each with its end; cur: what has been met of the line -/
def linC : List UInt8 → List UInt8 → List (List UInt8)
  | cur, [] => if cur = [] then [] else [cur]
  | cur, c :: r => if c = 10 then (cur ++ [c]) :: linC [] r else linC (cur ++ [c]) r
def ofL (l : List UInt8) : ByteArray := ⟨l.toArray⟩
/-- the lines of a text -/
def linesB (s : ByteArray) : List ByteArray := (linC [] s.data.toList).map ofL
theorem index_range : ∀ (l : List UInt8), Lib.indexByte l 10 = -1 ∨ ∃ i : Nat, Lib.indexByte l 10 = (i : Int)
  | [] => .inl rfl
  | b :: l => by
    simp only [Lib.indexByte]
    split
    · exact .inr ⟨0, rfl⟩
    · split
      · exact .inl rfl
      · rcases index_range l with h | ⟨i, h⟩
        · rename_i h1; rw [h] at h1; simp at h1
        · exact .inr ⟨i + 1, by rw [h]; simp⟩
theorem index_miss : ∀ (l : List UInt8), Lib.indexByte l 10 = -1 → ∀ cur, linC cur l = if cur ++ l = [] then [] else [cur ++ l]
  | [], _, cur => by simp [linC]
  | b :: l, h, cur => by
    simp only [Lib.indexByte] at h
    by_cases hb : b = 10
    · subst hb; simp at h
    · have hb' : (b == 10) = false := by simpa using hb
      rw [hb'] at h
      by_cases hm : Lib.indexByte l 10 = -1
      · simp only [linC, hb, if_false]
        rw [index_miss l hm]
        simp
      · have hm' : (Lib.indexByte l 10 == -1) = false := by simpa using hm
        rw [hm'] at h
        simp only [Bool.false_eq_true, if_false] at h
        rcases index_range l with e | ⟨k, e⟩
        · exact absurd e hm
        · rw [e] at h; omega
theorem index_hit : ∀ (l : List UInt8) (i : Nat), Lib.indexByte l 10 = (i : Int) → i < l.length ∧ ∀ cur, linC cur l = (cur ++ l.take (i + 1)) :: linC [] (l.drop (i + 1))
  | [], i, h => by simp [Lib.indexByte] at h
  | b :: l, i, h => by
    simp only [Lib.indexByte] at h
    by_cases hb : b = 10
    · subst hb
      simp at h
      obtain rfl : i = 0 := by omega
      refine ⟨by simp, fun cur => ?_⟩
      simp [linC]
    · have hb' : (b == 10) = false := by simpa using hb
      rw [hb'] at h
      simp only [Bool.false_eq_true, if_false] at h
      split at h
      · omega
      · rename_i hq
        obtain ⟨j, rfl⟩ : ∃ j, i = j + 1 := by
          rcases index_range l with e | ⟨k, e⟩
          · rw [e] at hq; simp at hq
          · rw [e] at h; exact ⟨k, by omega⟩
        obtain ⟨h1, h2⟩ := index_hit l j (by omega)
        refine ⟨by simp; omega, fun cur => ?_⟩
        simp only [linC, hb, if_false]
        rw [h2]
        simp
theorem ofL_extract (s : ByteArray) (a b : Nat) : ofL ((s.data.toList.drop a).take (b - a)) = s.extract a b := by
  unfold ofL
  cases h : s.extract a b with
  | mk d =>
    have : (s.extract a b).data.toList = (s.data.toList.drop a).take (b - a) := by simp [ByteArray.data_extract, List.extract_eq_take_drop]
    rw [h] at this
    simp at this
    rw [← this]
theorem lines_empty (s : ByteArray) (h : s.size = 0) : linesB s = [] := by
  have : s.data.toList = [] := by rw [← List.length_eq_zero_iff, len_data]; exact h
  simp [linesB, this, linC]
theorem lines_miss (s : ByteArray) (h : Lib.indexByte s.data.toList 10 = -1) (h0 : 0 < s.size) : linesB s = [s] := by
  unfold linesB
  rw [index_miss _ h]
  have hne : ¬ ([] ++ s.data.toList = []) := by rw [List.nil_append, ← List.length_eq_zero_iff, len_data]; omega
  rw [if_neg hne]
  simp [ofL]
theorem lines_hit (s : ByteArray) (i : Nat) (h : Lib.indexByte s.data.toList 10 = (i : Int)) : i < s.size ∧ linesB s = s.extract 0 (i + 1) :: linesB (s.extract (i + 1) s.size) := by
  obtain ⟨h1, h2⟩ := index_hit _ _ h
  rw [len_data] at h1
  refine ⟨h1, ?_⟩
  unfold linesB
  rw [h2]
  simp only [List.nil_append, List.map_cons]
  congr 1
  · have := ofL_extract s 0 (i + 1); simpa using this
  · have e : (s.extract (i + 1) s.size).data.toList = s.data.toList.drop (i + 1) := by
      rw [Lib.extract_data, List.take_of_length_le (by rw [List.length_drop, len_data]; omega)]
    rw [e]
/-- how much text the box still holds -/
def leftIn (X : Nat) (W : World) : Nat := match W.cell? ⟨X, 0, none⟩ with | some (.string s) => s.size | _ => 0
theorem leftIn_eq {X : Nat} {W : World} {t : TypeId} {s : ByteArray} (h : Boxed W X t (.string s)) : leftIn X W = s.size := by unfold leftIn; rw [h.cell]
theorem Abide.drew {X : Nat → Prop} {J : List ByteArray → World → Prop} (h : Abide X J) {s : List ByteArray} {W : World} (hs : J s W) : J s W.drew :=
  h s W _ none hs ⟨rfl, rfl, rfl, Nat.le_refl _, fun _ _ _ => rfl⟩ (fun r e => by cases e)

set_option maxRecDepth 100000 in
set_option maxHeartbeats 2000000 in
theorem lines_feeds (X : Nat) (s : ByteArray) (w : World) (hs : s.size ≤ 140737488355328) (hx : Boxed w X 9 (.string s)) : Feeds 15 #[.pointer (some ⟨X, 0, none⟩)] (linesB s) (fun r => r = X) w := by
  intro n l J W hb hJ hY h0
  have hlt := hx.lt
  have hxW : Boxed W X 9 (.string s) := (hb.block X hlt).trans hx
  refine callsIn_of_wp Try.func15 rfl trivial ?_
  simp only [Try.ntmps15, List.size_toArray, List.length_cons, List.length_nil, Nat.reduceAdd, Nat.reduceSub, Array.replicate_succ, Array.replicate_zero, List.push_toArray, List.append_toArray, List.nil_append, List.cons_append]
  have HY := Lib.hid hY; have HJ := Lib.hid hJ
  clear hY hJ hb
  gi_wp2
  gi_loopw [3, 4] (fun _ _ wr => ∃ (pre : List ByteArray) (rest : ByteArray), rest.size ≤ 140737488355328 ∧ Hid (J pre wr) ∧ Hid (Boxed wr X 9 (.string rest)) ∧ Hid (linesB s = pre ++ linesB rest)) (fun _ _ wr => leftIn X wr)
  case atStart => exact ⟨[], s, hs, h0, hxW, rfl⟩
  case round =>
    clear h0 hxW
    obtain ⟨pre, rest, hrs, HJs, HX, HE⟩ := hrel
    have hc := HX.out.cell
    have hf := HX.out.frozen
    by_cases hz : rest.size = 0
    · have hz' : decide (0 < rest.size) = false := by simp [hz]
      have HE2 := Lib.hid (show linesB s = pre by rw [HE.out, lines_empty rest hz, List.append_nil])
      clear hz
      gi_wp2
      go_end0
      exact ⟨⟨_, rfl⟩, by rw [HE2.out]; exact HJs.out⟩
    · have hpos : 0 < rest.size := by omega
      rcases index_range rest.data.toList with hm | ⟨i, hm⟩
      · have HL := Lib.hid (lines_miss rest hm hpos)
        have HM := Lib.hid hm
        clear hm hz
        have HP := Lib.hid (HY.out pre rest)
        have hle : leftIn X wr = rest.size := leftIn_eq HX.out
        have HLE := Lib.hid hle
        clear hle
        gi_wp2
        refine ⟨trivial, (fun h => by cases h), ?_⟩
        refine (callsIn_wide.2 (Try.strings_IndexByte _ _ _)).mono ?_; rintro e w' ⟨rfl, hw⟩; rw [hw, show ((10 : Int).toNat.toUInt8) = 10 from rfl, HM.out]; clear hw w'
        have hx2 := HX.out.set (.string ⟨#[]⟩)
        obtain ⟨fn, tmps, assign, body, hy, hR⟩ := HP.out (wr.setCell ⟨X, 0, none⟩ (.string ⟨#[]⟩)) (HJ.out.set HJs.out rfl _) (by rw [HE.out, HL.out]; exact List.prefix_rfl)
        have HR := Lib.hid hR
        clear hR
        gi_wp2
        refine ⟨(fun h => by cases h), HR.out.mono ?_⟩
        rintro e W3 ⟨rfl, hJ3, hb3⟩
        have hx3 : Boxed W3 X 9 (.string ⟨#[]⟩) := (hb3.block X hlt).trans hx2
        have hle3 := leftIn_eq hx3
        have HE3 := Lib.hid (show linesB s = (pre ++ [rest]) ++ linesB ⟨#[]⟩ by rw [HE.out, HL.out, lines_empty ⟨#[]⟩ rfl, List.append_nil])
        have H3 := Lib.hid hle3; have HJ3 := Lib.hid hJ3; have HX3 := Lib.hid hx3
        clear hy hx2 hb3 hle3 hJ3 hx3 HR
        gi_wp2
        exact ⟨⟨pre ++ [rest], ⟨#[]⟩, Nat.zero_le _, HJ3.out, HX3.out, HE3.out⟩, by rw [H3.out, HLE.out]; exact hpos⟩
      · obtain ⟨hi, hL⟩ := lines_hit rest i hm
        have HL := Lib.hid hL
        have HM := Lib.hid hm
        have HP := Lib.hid (HY.out pre (rest.extract 0 (i + 1)))
        have hle : leftIn X wr = rest.size := leftIn_eq HX.out
        have HLE := Lib.hid hle
        have hi0 : decide (0 ≤ (i : Int)) = true := by simp
        clear hle hm hz hL
        gi_wp2
        refine ⟨trivial, (fun h => by cases h), ?_⟩
        refine (callsIn_wide.2 (Try.strings_IndexByte _ _ _)).mono ?_; rintro e w' ⟨rfl, hw⟩; rw [hw, show ((10 : Int).toNat.toUInt8) = 10 from rfl, HM.out]; clear hw w'
        gi_wp2
        gi_region
        have hx2 := HX.out.set (.string (rest.extract (i + 1) rest.size))
        obtain ⟨fn, tmps, assign, body, hy, hR⟩ := HP.out (wr.setCell ⟨X, 0, none⟩ (.string (rest.extract (i + 1) rest.size))).drew (HJ.out.drew (HJ.out.set HJs.out rfl _)) (by rw [HE.out, HL.out]; exact ⟨linesB (rest.extract (i + 1) rest.size), by simp⟩)
        have HR := Lib.hid hR
        clear hR
        gi_wp2
        refine ⟨(fun h => by cases h), HR.out.mono ?_⟩
        rintro e W3 ⟨rfl, hJ3, hb3⟩
        have hx3 : Boxed W3 X 9 (.string (rest.extract (i + 1) rest.size)) := (hb3.block X hlt).trans hx2
        have hle3 := leftIn_eq hx3
        have hes : (rest.extract (i + 1) rest.size).size = rest.size - (i + 1) := by simp
        have HE3 := Lib.hid (show linesB s = (pre ++ [rest.extract 0 (i + 1)]) ++ linesB (rest.extract (i + 1) rest.size) by rw [HE.out, HL.out]; simp)
        rw [hes] at hle3
        have hbd : (rest.extract (i + 1) rest.size).size ≤ 140737488355328 := by omega
        have H3 := Lib.hid hle3; have HJ3 := Lib.hid hJ3; have HX3 := Lib.hid hx3
        clear hy hx2 hb3 hle3 hJ3 hx3 HR hes
        gi_wp2
        exact ⟨⟨pre ++ [rest.extract 0 (i + 1)], rest.extract (i + 1) rest.size, hbd, HJ3.out, HX3.out, HE3.out⟩, by rw [H3.out, HLE.out]; omega⟩
theorem linC_len : ∀ (l cur : List UInt8), (linC cur l).length ≤ l.length + (if cur = [] then 0 else 1)
  | [], cur => by by_cases h : cur = [] <;> simp [linC, h]
  | c :: l, cur => by
    simp only [linC]
    split
    · have := linC_len l []
      simp at this
      simp; omega
    · have := linC_len l (cur ++ [c])
      simp at this
      simp; omega
theorem linesB_len (s : ByteArray) : (linesB s).length ≤ s.size := by
  have := linC_len s.data.toList []
  simp only [if_true, Nat.add_zero] at this
  rw [len_data] at this
  simpa [linesB] using this
set_option maxHeartbeats 1000000 in
theorem lib_Lines (s : ByteArray) (w : World) : Calls Try.prog 11 #[.string s] w fun e w' => e = .returned (.func (.func 15) #[] #[.pointer (some ⟨w.heap.size, 0, none⟩)]) ∧ w' = w.alloc (.cells #[.string s] 9) := by
  go_enter Try.func11, Try.ntmps11
  go_wp2
  go_ret
  exact ⟨rfl, rfl⟩
set_option maxRecDepth 100000 in
set_option maxHeartbeats 1000000 in
theorem impl_Lines (s : ByteArray) (w : World) (hs : s.size ≤ 1099511627776) : Calls Try.prog 4 #[.string s] w (NewStrs (linesB s) w) := by
  have hn := linesB_len s
  have hfd := lines_feeds w.heap.size s (w.alloc (.cells #[.string s] 9)) (by omega) (Boxed.new w _ _)
  have hb0 : Below w.heap.size w (w.alloc (.cells #[.string s] 9)) := (Below.refl _ w).alloc (Nat.le_refl _) _
  have CG := Lib.hid (impl_gathered 15 #[.pointer (some ⟨w.heap.size, 0, none⟩)] (enters_of Try.func15 (by kernel_rfl) rfl) (linesB s) (fun r => r = w.heap.size) w.heap.size (w.alloc (.cells #[.string s] 9)) hfd (fun r h => by subst h; simp) (by simp) (by omega))
  have HB := Lib.hid hb0
  clear hfd hb0
  go_enter Try.func4, Try.ntmps4
  go_wp2_with fail
  refine (lib_Lines s w).mono ?_; rintro e w1 ⟨rfl, rfl⟩
  go_wp2_with fail
  refine CG.out.mono ?_; rintro e w2 ⟨g, c, rfl, ho, hb⟩
  go_wp2_with fail
  go_ret
  exact ⟨g, c, rfl, own_base ho (by simp), HB.out.trans hb⟩
end Go.Proofs.Yteiginpjahmppaa
