/-
  Contracts of the exact laws' helpers on tests: szTest, toTest, eqTest. Conditions: the test's runes lie in memory, at most 2^45 of them.
-/
import Derived.Test.YtehjbmijbgonkaaDoorTest
import Derived.Test.YtehjbmijbgonkaaDoorTexts
namespace Go.Proofs.YtehjbmijbgonkaaDoor
open Go.RowKit
set_option linter.unusedVariables false

set_option maxRecDepth 100000 in
set_option maxHeartbeats 1000000 in
theorem laws_szTest (a : Option Addr) (len cap : Nat) (nt : Bool) (left : Nat) (w : World) (hlen : len ≤ 70368744177664) (hleft : left ≤ 70368744177664) :
    Calls Tryd.prog 9 #[.agg #[.slice a len cap, .bool nt], .int .i64 (left : Int)] w fun e w' => e = .returned (.int .i64 (if left < len then -1 else (left : Int) - len)) ∧ Below w.heap.size w w' := by
  by_cases h : left < len
  · rw [if_pos h]
    go_enter Tryd.func9, Tryd.ntmps9
    go_wp2
    go_ret
    exact ⟨rfl, (Below.refl _ w).alloc (Nat.le_refl _) _⟩
  · rw [if_neg h]
    go_enter Tryd.func9, Tryd.ntmps9
    go_wp2
    go_ret
    exact ⟨rfl, (Below.refl _ w).alloc (Nat.le_refl _) _⟩

theorem laws_szTest_yes (a : Option Addr) (len cap : Nat) (nt : Bool) (w : World) (h : len ≤ 1048576) :
    Calls Tryd.prog 9 #[.agg #[.slice a len cap, .bool nt], .int .i64 1048576] w fun e w' => e = .returned (.int .i64 (1048576 - (len : Int))) ∧ Below w.heap.size w w' := by
  have := laws_szTest a len cap nt 1048576 w (by omega) (by omega)
  rw [if_neg (by omega)] at this
  exact this
theorem laws_szTest_no (a : Option Addr) (len cap : Nat) (nt : Bool) (w : World) (h : 1048576 < len) (hlen : len ≤ 70368744177664) :
    Calls Tryd.prog 9 #[.agg #[.slice a len cap, .bool nt], .int .i64 1048576] w fun e w' => e = .returned (.int .i64 (-1)) ∧ Below w.heap.size w w' := by
  have := laws_szTest a len cap nt 1048576 w (by omega) (by omega)
  rw [if_pos (by omega)] at this
  exact this
/-- a slice of new memory that holds the numbers zs -/
def NewInts (zs : List Int) (w : World) (e : Ending) (w' : World) : Prop :=
  ∃ a cap, e = .returned (.slice a zs.length cap) ∧ w'.ownsRow w.heap.size 21 1 (.slice a zs.length cap) zs.length (ints zs) ∧ Below w.heap.size w w'
/-- the value of a test, whose runes are a row of its own -/
def TestOwn (zs : List Int) (nt : Bool) (w : World) (e : Ending) (w' : World) : Prop :=
  ∃ a cap, e = .returned (.agg #[.slice a zs.length cap, .bool nt]) ∧ w'.ownsRow w.heap.size 21 1 (.slice a zs.length cap) zs.length (ints zs) ∧ Below w.heap.size w w'
theorem ints_of {xs : List Value} {zs : List Int} (hl : xs.length = zs.length) (h : ∀ j (hj : j < zs.length), xs[j]? = some (.int .i32 zs[j])) : xs = ints zs := by
  apply List.ext_getElem?
  intro j
  by_cases hj : j < zs.length
  · rw [h j hj]; simp [ints, hj]
  · rw [List.getElem?_eq_none (by omega), List.getElem?_eq_none (by simp [ints]; omega)]

set_option maxRecDepth 100000 in
set_option maxHeartbeats 1000000 in
theorem laws_toInt32S (a : Option Addr) (len cap : Nat) (zs : List Int) (w : World) (hl : Lies w w.heap.size 1 a len (ints zs)) (hlen : len ≤ 35184372088832) :
    Calls Tryd.prog 32 #[.slice a len cap] w (NewInts zs w) := by
  obtain ⟨i0, hi, hz0, hz1, hz2⟩ := info_parts Tryd.info32
  have hz : zs.length = len := by have := hl.1; simpa [ints] using this
  have HZ := Lib.hid hz; clear hz
  by_cases h0 : len = 0
  · subst h0
    obtain rfl : zs = [] := List.length_eq_zero_iff.1 HZ.out
    clear hl HZ
    go_enter Tryd.func32, Tryd.ntmps32
    go_wp2_with (at_make; refine wpList_make_full _ rfl _ _ 22 rfl w.heap.size 21 i0 (.int .i32 0) 1 Tryd.underlying22 hi hz0 hz1 .i64 .i64 _ _ 0 rfl rfl rfl rfl (by omega) (by unfold maxLen; omega) (Nat.le_refl _) ?_; intro w1 hown1 hgrow1)
    refine wp_loop_rounds 1 ?_; rw [rounds_succ]
    go_wp2
    go_ret
    exact ⟨_, _, rfl, by simpa [ints, madeCells] using hown1, grown_below hgrow1 (Nat.le_refl _) (fun k h => by cases h)⟩
  · obtain ⟨g, o, rfl, hg, hc0⟩ := hl.2 (by omega)
    have HC := Lib.hid hc0
    clear hl hc0 h0
    go_enter Tryd.func32, Tryd.ntmps32
    go_wp2_with (at_make; refine wpList_make_full _ rfl _ _ 22 rfl w.heap.size 21 i0 (.int .i32 0) 1 Tryd.underlying22 hi hz0 hz1 .i64 .i64 _ _ len rfl rfl rfl rfl (by rw [hz2]; omega) (by unfold maxLen; omega) (Nat.le_refl _) ?_; intro w1 hown1 hgrow1)
    have hb1 := Lib.hid (grown_below hgrow1 (Nat.le_refl _) (fun k h => by cases h) : Below w.heap.size w w1)
    have HO1 := Lib.hid hown1
    clear hown1 hgrow1
    go_loopw [4] (fun vi wr => ∃ (k : Nat) (xs : List Value), k ≤ len ∧ vi = .int .i64 (k : Int) ∧ Hid (wr.ownsRow w.heap.size 21 1 (.slice (some ⟨w.heap.size, 0, none⟩) len len) len xs) ∧ Hid (∀ j (hj : j < zs.length), j < k → xs[j]? = some (.int .i32 zs[j])) ∧ Hid (Below w.heap.size w wr)) (fun vi _ => len - (intOf vi).toNat)
    case atStart => exact ⟨0, _, Nat.zero_le _, rfl, HO1.out, fun _ _ h => absurd h (by omega), hb1.out⟩
    case round =>
      obtain ⟨k, xs, hk, rfl, HO, HX, HB⟩ := hrel
      have hxl : xs.length = len := by have := HO.out.1; omega
      have HXL := Lib.hid hxl
      by_cases hlt : k < len
      · have hkz : k < zs.length := by rw [HZ.out]; exact hlt
        have c1 : wr.cell? ⟨g, o + k, none⟩ = some (.int .i32 zs[k]) := by
          rw [HB.out.cell (p := ⟨g, o + k, none⟩) hg]
          have := HC.out k (by simpa [ints] using hkz)
          simpa [ints] using this
        have c2 : ∃ u, wr.cell? ⟨w.heap.size, k, none⟩ = some u := ⟨xs[k]'(by omega), by rw [HO.out.cellAt k (by omega), List.getElem?_eq_getElem (by omega)]⟩
        obtain ⟨u, c2⟩ := c2
        have f2 := HO.out.frozenAt k
        have HS := Lib.hid (HO.out.stored k (.int .i32 zs[k])).1
        have HX2 := Lib.hid (show ∀ j (hj : j < zs.length), j < k + 1 → (xs.set k (.int .i32 zs[k]))[j]? = some (.int .i32 zs[j]) from fun j hj h => by
          by_cases e : j = k
          · subst e; simp [hxl, hlt]
          · rw [List.getElem?_set_ne (by omega)]; exact HX.out j hj (by omega))
        have HB2 := Lib.hid (HB.out.setCell (p := ⟨w.heap.size, k, none⟩) (Nat.le_refl _) (.int .i32 zs[k]))
        clear hxl
        go_wp2
        go_roundw
        case rel => exact ⟨k + 1, _, by omega, by go_num, HS.out, HX2.out, HB2.out⟩
        case measure => simp [intOf]; omega
      · have HE := Lib.hid (ints_of (by rw [hxl, HZ.out]) (fun j hj => HX.out j hj (by rw [HZ.out] at hj; omega)))
        clear hxl
        go_wp2
        go_ret
        exact ⟨_, _, by rw [HZ.out]; rfl, by have := HO.out; rw [HE.out] at this; rw [HZ.out]; exact this, HB.out⟩

set_option maxRecDepth 100000 in
set_option maxHeartbeats 1000000 in
theorem laws_toTest_own (a : Option Addr) (len cap : Nat) (zs : List Int) (nt : Bool) (w : World) (hl : Lies w w.heap.size 1 a len (ints zs)) (hlen : len ≤ 35184372088832) :
    Calls Tryd.prog 11 #[.agg #[.slice a len cap, .bool nt]] w (TestOwn zs nt w) := by
  have hb0 : Below w.heap.size w (((w.alloc (.cells #[.slice a len cap, .bool nt] 24)).alloc (.cells #[.slice none 0 0, .bool false] 27)).alloc (.cells #[.slice none 0 0, .bool false] 27)) :=
    (((Below.refl _ w).alloc (Nat.le_refl _) _).alloc (by simp) _).alloc (by simp; omega) _
  have HL := Lib.hid (hl.later hb0)
  have HB := Lib.hid hb0
  clear hl hb0
  go_enter Tryd.func11, Tryd.ntmps11
  go_wp2_with fail
  refine (laws_toInt32S a len cap zs _ HL.out hlen).mono ?_; rintro e w1 ⟨a', cap', rfl, hown1, hb1⟩
  obtain ⟨hcs, hfs, hsz⟩ := three_blocks hb1
  obtain ⟨k00, k10, k20⟩ := hcs 0
  obtain ⟨k01, k11, k21⟩ := hcs 1
  obtain ⟨f00, f10, f20⟩ := hfs 0
  obtain ⟨f01, f11, f21⟩ := hfs 1
  have HO := Lib.hid hown1
  have B1 := Lib.hid (HB.out.trans (hb1.mono HB.out.size))
  clear hcs hfs hown1 hb1
  go_wp2_with fail
  have hq : w.heap.size + 1 + 1 < (((w.alloc (.cells #[.slice a len cap, .bool nt] 24)).alloc (.cells #[.slice none 0 0, .bool false] 27)).alloc (.cells #[.slice none 0 0, .bool false] 27)).heap.size := by simp only [World.size_alloc]; omega
  have ho2 := ownsRow_setCell_below (ownsRow_setCell_below (ownsRow_setCell_below (ownsRow_setCell_below HO.out (a := ⟨w.heap.size + 1 + 1, 0, none⟩) hq (.slice a' zs.length cap')) (a := ⟨w.heap.size + 1 + 1, 1, none⟩) hq (.bool nt))
    (a := ⟨w.heap.size + 1, 0, none⟩) (Nat.lt_trans (Nat.lt_succ_self _) hq) (.slice a' zs.length cap')) (a := ⟨w.heap.size + 1, 1, none⟩) (Nat.lt_trans (Nat.lt_succ_self _) hq) (.bool nt)
  have hb2 := (((B1.out.setCell (p := ⟨w.heap.size + 1 + 1, 0, none⟩) (by show w.heap.size ≤ w.heap.size + 1 + 1; omega) (.slice a' zs.length cap')).setCell (p := ⟨w.heap.size + 1 + 1, 1, none⟩) (by show w.heap.size ≤ w.heap.size + 1 + 1; omega) (.bool nt)).setCell
    (p := ⟨w.heap.size + 1, 0, none⟩) (by show w.heap.size ≤ w.heap.size + 1; omega) (.slice a' zs.length cap')).setCell (p := ⟨w.heap.size + 1, 1, none⟩) (by show w.heap.size ≤ w.heap.size + 1; omega) (.bool nt)
  exact bodyPost_ret (v := .agg #[(.slice a' zs.length cap'), .bool nt]) (by simp [results, Tryd.results11, go_sem, k10, k11]) rfl ⟨a', cap', rfl, own_base ho2 HB.out.size, hb2⟩
theorem laws_toTest (a : Option Addr) (len cap : Nat) (zs : List Int) (nt : Bool) (w : World) (hl : Lies w w.heap.size 1 a len (ints zs)) (hlen : len ≤ 35184372088832) :
    Calls Tryd.prog 11 #[.agg #[.slice a len cap, .bool nt]] w (TestOf zs nt w) := by
  refine (laws_toTest_own a len cap zs nt w hl hlen).mono ?_
  rintro e w' ⟨a', cap', rfl, ho, hb⟩
  exact ⟨a', cap', rfl, Lies.of_own ho, hb⟩

set_option maxRecDepth 100000 in
set_option maxHeartbeats 1000000 in
theorem laws_eqInt32S (a b : Option Addr) (len c d : Nat) (zs : List Int) (w : World) (ha : Lies w w.heap.size 1 a len (ints zs)) (hb : Lies w w.heap.size 1 b len (ints zs)) (hlen : len ≤ 70368744177664) :
    Calls Tryd.prog 35 #[.slice a len c, .slice b len d] w fun e w' => e = .returned (.bool true) ∧ Dr w w' := by
  have hz : zs.length = len := by have := ha.1; simpa [ints] using this
  have HZ := Lib.hid hz; clear hz
  by_cases h0 : len = 0
  · subst h0
    clear ha hb
    go_enter Tryd.func35, Tryd.ntmps35
    go_wp2
    refine wp_loop_rounds 1 ?_; rw [rounds_succ]
    go_wp2
    go_ret
    exact ⟨rfl, Dr.refl _⟩
  · obtain ⟨g, o, rfl, hg, hc⟩ := ha.2 (by omega)
    obtain ⟨g', o', rfl, hg', hc'⟩ := hb.2 (by omega)
    have HC := Lib.hid hc; have HC' := Lib.hid hc'
    clear ha hb hc hc' h0
    go_enter Tryd.func35, Tryd.ntmps35
    go_wp2
    go_loopw [5] (fun vi wr => ∃ k : Nat, k ≤ len ∧ vi = .int .i64 (k : Int) ∧ Hid (Dr w wr)) (fun vi _ => len - (intOf vi).toNat)
    case atStart => exact ⟨0, Nat.zero_le _, rfl, Dr.refl _⟩
    case round =>
      obtain ⟨k, hk, rfl, HD⟩ := hrel
      by_cases hlt : k < len
      · have hkz : k < zs.length := by rw [HZ.out]; exact hlt
        have c1 : wr.cell? ⟨g, o + k, none⟩ = some (.int .i32 zs[k]) := by
          obtain ⟨n, rfl⟩ := HD.out
          have := HC.out k (by simpa [ints] using hkz)
          simpa [ints] using this
        have c2 : wr.cell? ⟨g', o' + k, none⟩ = some (.int .i32 zs[k]) := by
          obtain ⟨n, rfl⟩ := HD.out
          have := HC'.out k (by simpa [ints] using hkz)
          simpa [ints] using this
        go_wp2
        go_quiet (fail)
        go_wp2
        go_roundw
        case rel => exact ⟨k + 1, by omega, by go_num, HD.out.more _⟩
        case measure => simp [intOf]; omega
      · go_wp2
        go_ret
        exact ⟨rfl, HD.out⟩

set_option maxRecDepth 100000 in
set_option maxHeartbeats 1000000 in
theorem laws_eqTest (a b : Option Addr) (len c d : Nat) (zs : List Int) (nt : Bool) (w : World) (ha : Lies w w.heap.size 1 a len (ints zs)) (hb : Lies w w.heap.size 1 b len (ints zs)) (hlen : len ≤ 70368744177664) :
    Calls Tryd.prog 13 #[.agg #[.slice a len c, .bool nt], .agg #[.slice b len d, .bool nt]] w fun e w' => e = .returned (.bool true) ∧ Below w.heap.size w w' := by
  have hb0 : Below w.heap.size w ((w.alloc (.cells #[.slice a len c, .bool nt] 27)).alloc (.cells #[.slice b len d, .bool nt] 27)) :=
    ((Below.refl _ w).alloc (Nat.le_refl _) _).alloc (by simp) _
  have HA := Lib.hid (ha.later hb0); have HB := Lib.hid (hb.later hb0); have H0 := Lib.hid hb0
  clear ha hb hb0
  go_enter Tryd.func13, Tryd.ntmps13
  go_wp2_with fail
  refine (laws_eqInt32S a b len c d zs _ HA.out HB.out hlen).mono ?_; rintro e w1 ⟨rfl, n, rfl⟩
  go_wp2_with fail
  go_ret
  exact ⟨rfl, H0.out.trans (Dr.below ⟨n, rfl⟩ _)⟩
end Go.Proofs.YtehjbmijbgonkaaDoor
