/-
  Contracts of the reference's space, Blank and blank, of the laws' blanks, and of the thin package's TrimSpace and Fields. Conditions: the library's tables are as their initialisers lay them.
-/
import Derived.Test.YteiginpjahmppaaDoorSpace
import Derived.Test.YteiginpjahmppaaDoorTabs
import Derived.Test.YteiginpjahmppaaDoorLastS
import Derived.Test.YteiginpjahmppaaDoorRuns2
import Derived.Test.YteiginpjahmppaaDoorNewS
namespace Go.Proofs.YteiginpjahmppaaDoor
open Go.RowKit
set_option linter.unusedVariables false

set_option maxRecDepth 100000 in
set_option maxHeartbeats 2000000 in
theorem spec_space (n : Nat) (w : World) : Calls Tryd.prog 59 #[.int .i32 (n : Int)] w fun e w' => e = .returned (.bool (Lib.isSpaceR n)) ∧ w = w' := by
  obtain ⟨b, hb⟩ : ∃ b, Lib.isSpaceR n = b := ⟨_, rfl⟩
  have HB := Lib.hid hb
  have hb2 := hb
  unfold Lib.isSpaceR at hb2
  rw [hb]
  clear hb
  cases b with
  | true =>
    simp only [Bool.or_eq_true, Bool.and_eq_true, decide_eq_true_eq, beq_iff_eq] at hb2
    by_cases hr : 8192 ≤ n ∧ n ≤ 8202
    · obtain ⟨h1, h2⟩ := hr
      have e9 : ((n : Int) == 9) = false := beq_eq_false_iff_ne.2 (by omega)
      have e10 : ((n : Int) == 10) = false := beq_eq_false_iff_ne.2 (by omega)
      have e11 : ((n : Int) == 11) = false := beq_eq_false_iff_ne.2 (by omega)
      have e12 : ((n : Int) == 12) = false := beq_eq_false_iff_ne.2 (by omega)
      have e13 : ((n : Int) == 13) = false := beq_eq_false_iff_ne.2 (by omega)
      have e32 : ((n : Int) == 32) = false := beq_eq_false_iff_ne.2 (by omega)
      have e133 : ((n : Int) == 133) = false := beq_eq_false_iff_ne.2 (by omega)
      have e160 : ((n : Int) == 160) = false := beq_eq_false_iff_ne.2 (by omega)
      have e5 : ((n : Int) == 5760) = false := beq_eq_false_iff_ne.2 (by omega)
      have e6 : ((n : Int) == 8232) = false := beq_eq_false_iff_ne.2 (by omega)
      have e7 : ((n : Int) == 8233) = false := beq_eq_false_iff_ne.2 (by omega)
      have e8 : ((n : Int) == 8239) = false := beq_eq_false_iff_ne.2 (by omega)
      have ea : ((n : Int) == 8287) = false := beq_eq_false_iff_ne.2 (by omega)
      have eb : ((n : Int) == 12288) = false := beq_eq_false_iff_ne.2 (by omega)
      have ec : decide (8192 ≤ (n : Int)) = true := by simp; omega
      have ed : decide ((n : Int) ≤ 8202) = true := by simp; omega
      clear hb2
      go_enter Tryd.func59, Tryd.ntmps59
      go_wp2
      go_ret
      exact ⟨rfl, rfl⟩
    · have hc : n = 9 ∨ n = 10 ∨ n = 11 ∨ n = 12 ∨ n = 13 ∨ n = 32 ∨ n = 133 ∨ n = 160 ∨ n = 5760 ∨ n = 8232 ∨ n = 8233 ∨ n = 8239 ∨ n = 8287 ∨ n = 12288 := by omega
      clear hb2 hr HB
      rcases hc with rfl | rfl | rfl | rfl | rfl | rfl | rfl | rfl | rfl | rfl | rfl | rfl | rfl | rfl
      all_goals
        go_enter Tryd.func59, Tryd.ntmps59
        go_wp2
        go_ret
        exact ⟨rfl, rfl⟩
  | false =>
    simp only [Bool.or_eq_false_iff, Bool.and_eq_false_iff, decide_eq_false_iff_not, beq_eq_false_iff_ne] at hb2
    have e9 : ((n : Int) == 9) = false := beq_eq_false_iff_ne.2 (by omega)
    have e10 : ((n : Int) == 10) = false := beq_eq_false_iff_ne.2 (by omega)
    have e11 : ((n : Int) == 11) = false := beq_eq_false_iff_ne.2 (by omega)
    have e12 : ((n : Int) == 12) = false := beq_eq_false_iff_ne.2 (by omega)
    have e13 : ((n : Int) == 13) = false := beq_eq_false_iff_ne.2 (by omega)
    have e32 : ((n : Int) == 32) = false := beq_eq_false_iff_ne.2 (by omega)
    have e133 : ((n : Int) == 133) = false := beq_eq_false_iff_ne.2 (by omega)
    have e160 : ((n : Int) == 160) = false := beq_eq_false_iff_ne.2 (by omega)
    have e5 : ((n : Int) == 5760) = false := beq_eq_false_iff_ne.2 (by omega)
    have e6 : ((n : Int) == 8232) = false := beq_eq_false_iff_ne.2 (by omega)
    have e7 : ((n : Int) == 8233) = false := beq_eq_false_iff_ne.2 (by omega)
    have e8 : ((n : Int) == 8239) = false := beq_eq_false_iff_ne.2 (by omega)
    have ea : ((n : Int) == 8287) = false := beq_eq_false_iff_ne.2 (by omega)
    have eb : ((n : Int) == 12288) = false := beq_eq_false_iff_ne.2 (by omega)
    by_cases hr : 8192 ≤ n
    · have ec : decide (8192 ≤ (n : Int)) = true := by simp; omega
      have ed : decide ((n : Int) ≤ 8202) = false := by simp; omega
      clear hb2 hr
      go_enter Tryd.func59, Tryd.ntmps59
      go_wp2
      go_ret
      exact ⟨rfl, rfl⟩
    · have ec : decide (8192 ≤ (n : Int)) = false := by simp; omega
      clear hb2 hr
      go_enter Tryd.func59, Tryd.ntmps59
      go_wp2
      go_ret
      exact ⟨rfl, rfl⟩
set_option maxRecDepth 100000 in
set_option maxHeartbeats 2000000 in
theorem spec_blank (w : World) : Calls Tryd.prog 41 #[] w (TestOf (blankK 12289) false w) := by
  obtain ⟨i0, hi, hz0, hz1, hz2⟩ := info_parts Tryd.info32
  have HX00 := Lib.hid (((Box.new w 24 #[.slice none 0 0, .bool false])).alloc (.cells #[.slice none 0 0, .bool false] 24))
  have HX10 := Lib.hid (show Box ((w.alloc (.cells #[.slice none 0 0, .bool false] 24)).alloc (.cells #[.slice none 0 0, .bool false] 24)) (w.heap.size + 1) 24 #[.slice none 0 0, .bool false] by have := Box.new (w.alloc (.cells #[.slice none 0 0, .bool false] 24)) 24 #[.slice none 0 0, .bool false]; simpa using this)
  have HB0 := Lib.hid (show Below w.heap.size w ((w.alloc (.cells #[.slice none 0 0, .bool false] 24)).alloc (.cells #[.slice none 0 0, .bool false] 24)) from ((Below.refl _ w).alloc (Nat.le_refl _) _).alloc (by simp) _)
  go_enter Tryd.func41, Tryd.ntmps41
  go_wp2_with fail
  go_loopw [2] (fun vr wr => ∃ (k : Nat) (v : Value), k ≤ 12289 ∧ vr = .int .i32 (k : Int) ∧ Hid (Box wr w.heap.size 24 #[.slice none 0 0, .bool false]) ∧ Hid (Box wr (w.heap.size + 1) 24 #[v, .bool false]) ∧ Hid (wr.ownsRow (w.heap.size + 2) 21 1 v (blankK k).length (ints (blankK k))) ∧ Hid (Below w.heap.size w wr)) (fun vr _ => 12289 - (intOf vr).toNat)
  case atStart => exact ⟨0, .slice none 0 0, Nat.zero_le _, rfl, HX00.out, HX10.out, World.ownsRow_nil _ _ _ _, HB0.out⟩
  case round =>
    clear HX00 HX10 HB0
    obtain ⟨k, v, hk, rfl, HX0, HX1, HO, HB⟩ := hrel
    obtain ⟨a, c, hv⟩ := own_slice HO.out
    subst hv
    have hsz : w.heap.size + 1 < wr.heap.size := HX1.out.lt
    have hkl := blankK_len k
    have hsz0 := HB.out.size
    by_cases hlt : k < 12289
    · have hc1 : decide ((k : Int) ≤ 12288) = true := by simp; omega
      have x0 : wr.cell? ⟨w.heap.size + 1, 0, none⟩ = some (.slice a (blankK k).length c) := HX1.out.cell 0
      have hs := blankK_succ k
      cases hp : Lib.isSpaceR k
      · rw [hp] at hs
        have HS := Lib.hid (show blankK (k + 1) = blankK k by rw [hs]; simp)
        have CS := Lib.hid (show Calls Tryd.prog 59 #[.int .i32 (k : Int)] wr _ by have := spec_space k wr; rw [hp] at this; exact this)
        clear hs hp
        generalize blankK k = L at *
        go_wp2_with fail
        refine CS.out.mono ?_; rintro e w' ⟨rfl, rfl⟩
        go_wp2_with fail
        exact ⟨⟨k + 1, _, by omega, by go_num, HX0.out, HX1.out, by rw [HS.out]; exact HO.out, HB.out⟩, by simp [intOf]; omega⟩
      · rw [hp] at hs
        have HS := Lib.hid (show blankK (k + 1) = blankK k ++ [(k : Int)] by rw [hs]; simp)
        have CS := Lib.hid (show Calls Tryd.prog 59 #[.int .i32 (k : Int)] wr _ by have := spec_space k wr; rw [hp] at this; exact this)
        clear hs hp
        generalize blankK k = L at *
        go_wp2_with fail
        refine CS.out.mono ?_; rintro e w' ⟨rfl, rfl⟩
        go_wp2_with (at_builtin; refine wpList_append_own _ rfl _ _ 22 rfl (w.heap.size + 2) 21 i0 (.int .i32 0) 1 4 Tryd.underlying22 hi hz0 hz1 hz2 rfl (by decide) _ _ _ rfl (HO.out.alloc _) ⟨wr.heap.size, 0, none⟩ 1 1 [.int .i32 (k : Int)] rfl rfl (cell_one_new _ _ _) (by simp [Value.oneCell']) (by unfold maxLen; omega) (by omega) (by simp; omega) ?_; intro v' w1 hown1 hgrow1 hnil; obtain ⟨a', c', rfl⟩ := own_slice hown1; have hX1 := (HX1.out.alloc (.cells #[.int .i32 (k : Int)] 21)).grown hgrow1 ((HX1.out.alloc (.cells #[.int .i32 (k : Int)] 21)).apart (HO.out.alloc _) (by decide)); have hX0 := (HX0.out.alloc (.cells #[.int .i32 (k : Int)] 21)).grown hgrow1 ((HX0.out.alloc (.cells #[.int .i32 (k : Int)] 21)).apart (HO.out.alloc _) (by decide)); have d0 := hX1.cell 0; have f0 := hX1.frozen 0; clear hnil)
        have hX1' := hX1.set 0 (.slice a' (L.length + 1) c')
        have hX0' : Box (w1.setCell ⟨w.heap.size + 1, 0, none⟩ (.slice a' (L.length + 1) c')) w.heap.size 24 #[.slice none 0 0, .bool false] := (Below.heap_setCell _ _ _ _ (by show w.heap.size ≠ w.heap.size + 1; omega)).trans hX0
        have hO' := ownsRow_setCell_below hown1 (a := ⟨w.heap.size + 1, 0, none⟩) (by show w.heap.size + 1 < w.heap.size + 2; omega) (.slice a' (L.length + 1) c')
        have hB1 := (HB.out.alloc hsz0 (.cells #[.int .i32 (k : Int)] 21)).grown hgrow1 (by simp; omega) (fun q h => by have := (HO.out.lt q h).1; omega)
        have hB' := hB1.setCell (p := ⟨w.heap.size + 1, 0, none⟩) (by show w.heap.size ≤ w.heap.size + 1; omega) (.slice a' (L.length + 1) c')
        exact ⟨⟨k + 1, _, by omega, by go_num, hX0', hX1', Lib.hid (by rw [HS.out]; simpa [ints] using hO'), hB'⟩, by simp [intOf]; omega⟩
    · obtain rfl : k = 12289 := by omega
      have x0 : wr.cell? ⟨w.heap.size + 1, 0, none⟩ = some (.slice a (blankK 12289).length c) := HX1.out.cell 0
      have x1 : wr.cell? ⟨w.heap.size + 1, 1, none⟩ = some (.bool false) := HX1.out.cell 1
      have y0 : wr.cell? ⟨w.heap.size, 0, none⟩ = some (.slice none 0 0) := HX0.out.cell 0
      have y1 : wr.cell? ⟨w.heap.size, 1, none⟩ = some (.bool false) := HX0.out.cell 1
      have g0 := HX0.out.frozen 0
      have g1 := HX0.out.frozen 1
      generalize blankK 12289 = L at *
      go_wp2_with fail
      have ho2 := ownsRow_setCell_below (ownsRow_setCell_below HO.out (a := ⟨w.heap.size, 0, none⟩) (by show w.heap.size < w.heap.size + 2; omega) (.slice a L.length c)) (a := ⟨w.heap.size, 1, none⟩) (by show w.heap.size < w.heap.size + 2; omega) (.bool false)
      have hb2 := (HB.out.setCell (p := ⟨w.heap.size, 0, none⟩) (Nat.le_refl _) (.slice a L.length c)).setCell (p := ⟨w.heap.size, 1, none⟩) (Nat.le_refl _) (.bool false)
      exact bodyPost_ret (v := .agg #[.slice a L.length c, .bool false]) (by simp [results, Tryd.results41, go_sem, y0, y1]) rfl ⟨a, c, rfl, Lies.of_own ho2, hb2⟩
set_option maxHeartbeats 1000000 in
theorem spec_Blank (n : Nat) (w : World) : Calls Tryd.prog 47 #[.int .i32 (n : Int)] w fun e w' => e = .returned (.bool (Lib.isSpaceR n)) ∧ w = w' := by
  go_enter Tryd.func47, Tryd.ntmps47
  go_wp2_with (go_at_call 59; refine (spec_space n _).mono ?_; rintro e w' ⟨rfl, rfl⟩)
  go_ret
  exact ⟨rfl, rfl⟩
/-- the runes of white space, in new memory -/
def BlanksOf (w : World) (e : Ending) (w' : World) : Prop :=
  ∃ a c, e = .returned (.slice a (blankK 12289).length c) ∧ Lies w' w'.heap.size 1 a (blankK 12289).length (ints (blankK 12289)) ∧ (a = none → (blankK 12289).length = 0) ∧ Below w.heap.size w w'
set_option maxRecDepth 100000 in
set_option maxHeartbeats 2000000 in
theorem laws_blanks (w : World) : Calls Tryd.prog 29 #[] w (BlanksOf w) := by
  obtain ⟨i0, hi, hz0, hz1, hz2⟩ := info_parts Tryd.info32
  go_enter Tryd.func29, Tryd.ntmps29
  go_wp2_with fail
  go_loopw [1, 2] (fun v vr wr => ∃ (k : Nat), k ≤ 12289 ∧ vr = .int .i32 (k : Int) ∧ Hid (wr.ownsRow w.heap.size 21 1 v (blankK k).length (ints (blankK k))) ∧ Hid (Below w.heap.size w wr)) (fun _ vr _ => 12289 - (intOf vr).toNat)
  case atStart => exact ⟨0, Nat.zero_le _, rfl, World.ownsRow_nil _ _ _ _, Below.refl _ _⟩
  case round =>
    obtain ⟨k, hk, rfl, HO, HB⟩ := hrel
    have hkl := blankK_len k
    have hsz0 := HB.out.size
    by_cases hlt : k < 12289
    · have hc1 : decide ((k : Int) ≤ 12288) = true := by simp; omega
      have hs := blankK_succ k
      cases hp : Lib.isSpaceR k
      · rw [hp] at hs
        have HS := Lib.hid (show blankK (k + 1) = blankK k by rw [hs]; simp)
        have CS := Lib.hid (show Calls Tryd.prog 47 #[.int .i32 (k : Int)] wr _ by have := spec_Blank k wr; rw [hp] at this; exact this)
        clear hs hp
        generalize blankK k = L at *
        go_wp2_with fail
        refine CS.out.mono ?_; rintro e w' ⟨rfl, rfl⟩
        go_wp2_with fail
        exact ⟨⟨k + 1, by omega, by go_num, by rw [HS.out]; exact HO.out, HB.out⟩, by simp [intOf]; omega⟩
      · rw [hp] at hs
        have HS := Lib.hid (show blankK (k + 1) = blankK k ++ [(k : Int)] by rw [hs]; simp)
        have CS := Lib.hid (show Calls Tryd.prog 47 #[.int .i32 (k : Int)] wr _ by have := spec_Blank k wr; rw [hp] at this; exact this)
        clear hs hp
        generalize blankK k = L at *
        go_wp2_with fail
        refine CS.out.mono ?_; rintro e w' ⟨rfl, rfl⟩
        go_wp2_with (at_builtin; refine wpList_append_own _ rfl _ _ 22 rfl w.heap.size 21 i0 (.int .i32 0) 1 4 Tryd.underlying22 hi hz0 hz1 hz2 rfl (by decide) _ _ _ rfl (HO.out.alloc _) ⟨wr.heap.size, 0, none⟩ 1 1 [.int .i32 (k : Int)] rfl rfl (cell_one_new _ _ _) (by simp [Value.oneCell']) (by unfold maxLen; omega) (by omega) (by simp; omega) ?_; intro v' w1 hown1 hgrow1 hnil; clear hnil)
        have hB1 := (HB.out.alloc hsz0 (.cells #[.int .i32 (k : Int)] 21)).grown hgrow1 (by simp; omega) (fun q h => (HO.out.lt q h).1)
        exact ⟨⟨k + 1, by omega, by go_num, Lib.hid (by rw [HS.out]; simpa [ints] using hown1), hB1⟩, by simp [intOf]; omega⟩
    · obtain rfl : k = 12289 := by omega
      obtain ⟨a, c, hv⟩ := own_slice HO.out
      subst hv
      generalize hL : blankK 12289 = L at *
      have HLL := Lib.hid hL
      have HN := Lib.hid (show a = none → L.length = 0 from fun h => by
        subst h
        rcases HO.out.2 with ⟨e, h0⟩ | ⟨g, cap, cur, e, _⟩
        · exact h0
        · cases e)
      clear hL
      go_wp2_with fail
      go_ret
      exact ⟨a, c, by rw [HLL.out]; rfl, by rw [HLL.out]; exact Lies.of_own HO.out, by rw [HLL.out]; exact HN.out, HB.out⟩
end Go.Proofs.YteiginpjahmppaaDoor
