/-
  Contracts of the exact laws' helpers on tables: szTable, toTable, eqTable. Conditions: the table's rows lie in memory, at most 2^44 of them.
-/
import Derived.Test.YtlgibcphfmjddaaDoorTab
import Derived.Deep.RegionHeld3
namespace Go.Proofs.YtlgibcphfmjddaaDoor
open Go.RowKit
set_option linter.unusedVariables false

theorem laws_szRowS (a : Option Addr) (len cap : Nat) (left : Nat) (w : World) (hlen : len ≤ 70368744177664) (hleft : left ≤ 70368744177664) :
    Calls Tryd.prog 31 #[.slice a len cap, .int .i64 (left : Int)] w fun e w' => e = .returned (.int .i64 (if left < len then -1 else (left : Int) - len)) ∧ w' = w := by
  by_cases h : left < len
  · rw [if_pos h]
    go_enter Tryd.func31, Tryd.ntmps31
    go_wp2
    go_ret
    exact ⟨rfl, rfl⟩
  · rw [if_neg h]
    go_enter Tryd.func31, Tryd.ntmps31
    go_wp2
    go_ret
    exact ⟨rfl, rfl⟩
theorem laws_szTable (a : Option Addr) (len cap : Nat) (left : Nat) (w : World) (hlen : len ≤ 70368744177664) (hleft : left ≤ 70368744177664) :
    Calls Tryd.prog 14 #[.agg #[.slice a len cap], .int .i64 (left : Int)] w fun e w' => e = .returned (.int .i64 (if left < len then -1 else (left : Int) - len)) ∧ Below w.heap.size w w' := by
  by_cases h : left < len
  · have C := Lib.hid (fun W => laws_szRowS a len cap left W hlen hleft)
    rw [if_pos h] at C
    rw [if_pos h]
    go_enter Tryd.func14, Tryd.ntmps14
    go_wp2_with fail
    refine (C.out _).mono ?_; rintro e w1 ⟨rfl, rfl⟩
    go_wp2_with fail
    go_ret
    exact ⟨rfl, (Below.refl _ w).alloc (Nat.le_refl _) _⟩
  · have C := Lib.hid (fun W => laws_szRowS a len cap left W hlen hleft)
    rw [if_neg h] at C
    rw [if_neg h]
    go_enter Tryd.func14, Tryd.ntmps14
    go_wp2_with fail
    refine (C.out _).mono ?_; rintro e w1 ⟨rfl, rfl⟩
    go_wp2_with fail
    go_ret
    exact ⟨rfl, (Below.refl _ w).alloc (Nat.le_refl _) _⟩
theorem laws_szTable_yes (a : Option Addr) (len cap : Nat) (w : World) (h : len ≤ 1048576) :
    Calls Tryd.prog 14 #[.agg #[.slice a len cap], .int .i64 1048576] w fun e w' => e = .returned (.int .i64 (1048576 - (len : Int))) ∧ Below w.heap.size w w' := by
  have := laws_szTable a len cap 1048576 w (by omega) (by omega)
  rw [if_neg (by omega)] at this
  exact this
theorem laws_szTable_no (a : Option Addr) (len cap : Nat) (w : World) (h : 1048576 < len) (hlen : len ≤ 70368744177664) :
    Calls Tryd.prog 14 #[.agg #[.slice a len cap], .int .i64 1048576] w fun e w' => e = .returned (.int .i64 (-1)) ∧ Below w.heap.size w w' := by
  have := laws_szTable a len cap 1048576 w (by omega) (by omega)
  rw [if_pos (by omega)] at this
  exact this
set_option maxRecDepth 100000 in
set_option maxHeartbeats 1000000 in
theorem laws_toRow (x y : Int) (w : World) :
    Calls Tryd.prog 49 #[.agg #[.int .i32 x, .int .i32 y]] w fun e w' => e = .returned (.agg #[.int .i32 x, .int .i32 y]) ∧ Below w.heap.size w w' := by
  go_enter Tryd.func49, Tryd.ntmps49
  go_wp2
  exact bodyPost_ret (v := .agg #[.int .i32 x, .int .i32 y]) (by simp [results, Tryd.results49, go_sem]) rfl ⟨rfl, (((Below.refl _ w).alloc (Nat.le_refl _) _).alloc (by simp) _).alloc (by simp; omega) _⟩
set_option maxRecDepth 100000 in
set_option maxHeartbeats 1000000 in
theorem laws_eqRow (x y : Int) (w : World) :
    Calls Tryd.prog 58 #[.agg #[.int .i32 x, .int .i32 y], .agg #[.int .i32 x, .int .i32 y]] w fun e w' => e = .returned (.bool true) ∧ Below w.heap.size w w' := by
  go_enter Tryd.func58, Tryd.ntmps58
  go_wp2
  go_ret
  exact ⟨rfl, ((Below.refl _ w).alloc (Nat.le_refl _) _).alloc (by simp) _⟩
/-- a slice of new memory that holds the rows rs -/
def NewRows (rs : List (Int × Int)) (w : World) (e : Ending) (w' : World) : Prop :=
  ∃ a cap, e = .returned (.slice a rs.length cap) ∧ w'.ownsRow w.heap.size 40 2 (.slice a rs.length cap) rs.length (rcells rs) ∧ Below w.heap.size w w'
theorem rcells_at : ∀ (l : List (Int × Int)) (k : Nat) (hk : k < l.length), (rcells l)[k * 2]? = some (.int .i32 l[k].1) ∧ (rcells l)[k * 2 + 1]? = some (.int .i32 l[k].2)
  | [], k, hk => by simp at hk
  | p :: l, 0, hk => by simp [rcells]
  | p :: l, k + 1, hk => by
    have := rcells_at l k (by simpa using hk)
    have e : rcells (p :: l) = .int .i32 p.1 :: .int .i32 p.2 :: rcells l := by simp [rcells]
    rw [e, show (k + 1) * 2 = k * 2 + 1 + 1 by omega, List.getElem?_cons_succ, List.getElem?_cons_succ, show k * 2 + 1 + 1 + 1 = (k * 2 + 1) + 1 + 1 by omega, List.getElem?_cons_succ, List.getElem?_cons_succ]
    simpa using this
theorem rcells_of {xs : List Value} {zs : List (Int × Int)} (hl : xs.length = zs.length * 2) (h : ∀ j (hj : j < zs.length), xs[j * 2]? = some (.int .i32 zs[j].1) ∧ xs[j * 2 + 1]? = some (.int .i32 zs[j].2)) : xs = rcells zs := by
  apply List.ext_getElem?
  intro j
  by_cases hj : j < zs.length * 2
  · have h1 := h (j / 2) (by omega)
    have h2 := rcells_at zs (j / 2) (by omega)
    rcases Nat.mod_two_eq_zero_or_one j with e | e
    · rw [show j = j / 2 * 2 by omega]; rw [h1.1, h2.1]
    · rw [show j = j / 2 * 2 + 1 by omega]; rw [h1.2, h2.2]
  · rw [List.getElem?_eq_none (by omega), List.getElem?_eq_none (by rw [rcells_len]; omega)]
set_option maxRecDepth 100000 in
set_option maxHeartbeats 2000000 in
theorem laws_toRowS (a : Option Addr) (len cap : Nat) (zs : List (Int × Int)) (w : World) (hl : Lies w w.heap.size 2 a len (rcells zs)) (hlen : len ≤ 17592186044416) :
    Calls Tryd.prog 33 #[.slice a len cap] w (NewRows zs w) := by
  obtain ⟨i0, hi, hz0, hz1, hz2⟩ := info_parts Tryd.infoRow
  have hz : zs.length = len := by have := hl.1; rw [rcells_len] at this; omega
  subst hz
  have HL := Lib.hid hl; clear hl
  go_enter Tryd.func33, Tryd.ntmps33
  go_wp2_with (at_make; refine wpList_make_full _ rfl _ _ 27 rfl w.heap.size 40 i0 _ 2 Tryd.underlying27 hi hz0 hz1 .i64 .i64 _ _ zs.length rfl rfl rfl rfl (by rw [hz2]; omega) (by unfold maxLen; omega) (Nat.le_refl _) ?_; intro w1 hown1 hgrow1)
  have hb1 := Lib.hid (grown_below hgrow1 (Nat.le_refl _) (fun k h => by cases h) : Below w.heap.size w w1)
  have HO1 := Lib.hid hown1
  clear hown1 hgrow1
  go_loopw [4] (fun vi wr => ∃ (k : Nat) (xs : List Value), k ≤ zs.length ∧ vi = .int .i64 (k : Int) ∧ Hid (wr.ownsRow w.heap.size 40 2 (.slice (some ⟨w.heap.size, 0, none⟩) zs.length zs.length) zs.length xs) ∧ Hid (∀ j (hj : j < zs.length), j < k → xs[j * 2]? = some (.int .i32 zs[j].1) ∧ xs[j * 2 + 1]? = some (.int .i32 zs[j].2)) ∧ Hid (Below w.heap.size w wr)) (fun vi _ => zs.length - (intOf vi).toNat)
  case atStart => exact ⟨0, _, Nat.zero_le _, rfl, HO1.out, fun _ _ h => absurd h (by omega), hb1.out⟩
  case round =>
    clear HO1 hb1
    obtain ⟨k, xs, hk, rfl, HO, HX, HB⟩ := hrel
    by_cases hlt : k < zs.length
    · obtain ⟨g, o, rfl, hg, c0, c1⟩ := row_cell (HL.out.below HB.out) k hlt
      have HXS := Lib.hid (show ∀ j (hj : j < zs.length), j < k + 1 → ((xs.set (k * 2) (.int .i32 zs[k].1)).set (k * 2 + 1) (.int .i32 zs[k].2))[j * 2]? = some (.int .i32 zs[j].1) ∧ ((xs.set (k * 2) (.int .i32 zs[k].1)).set (k * 2 + 1) (.int .i32 zs[k].2))[j * 2 + 1]? = some (.int .i32 zs[j].2) from fun j hj h => by
        have hxl : xs.length = zs.length * 2 := HO.out.1
        by_cases e : j = k
        · subst e
          rw [List.getElem?_set_ne (by omega), List.getElem?_set_self (by omega), List.getElem?_set_self (by rw [List.length_set]; omega)]
          exact ⟨rfl, rfl⟩
        · rw [List.getElem?_set_ne (by omega), List.getElem?_set_ne (by omega), List.getElem?_set_ne (by omega), List.getElem?_set_ne (by omega)]
          exact HX.out j hj (by omega))
      generalize zs[k].1 = x at *
      generalize zs[k].2 = y at *
      go_wp2_with fail
      refine (laws_toRow x y _).mono ?_; rintro e w2 ⟨rfl, hb2⟩
      have HO2 := Lib.hid (own_later HO.out hb2); have HB2 := Lib.hid (HB.out.trans (hb2.mono HB.out.size))
      clear hb2 HB HO
      have hxl : xs.length = zs.length * 2 := HO2.out.1
      obtain ⟨u0, d0⟩ : ∃ u, w2.cell? ⟨w.heap.size, k * 2, none⟩ = some u := ⟨xs[k * 2]'(by omega), by rw [HO2.out.cellAt (k * 2) (by omega), List.getElem?_eq_getElem (by omega)]⟩
      obtain ⟨u1, d1⟩ : ∃ u, w2.cell? ⟨w.heap.size, k * 2 + 1, none⟩ = some u := ⟨xs[k * 2 + 1]'(by omega), by rw [HO2.out.cellAt (k * 2 + 1) (by omega), List.getElem?_eq_getElem (by omega)]⟩
      have f0 := HO2.out.frozenAt (k * 2)
      have f1 := HO2.out.frozenAt (k * 2 + 1)
      have HS := Lib.hid ((HO2.out.stored (k * 2) (.int .i32 x)).1.stored (k * 2 + 1) (.int .i32 y)).1
      have HB3 := Lib.hid ((HB2.out.setCell (p := ⟨w.heap.size, k * 2, none⟩) (Nat.le_refl _) (.int .i32 x)).setCell (p := ⟨w.heap.size, k * 2 + 1, none⟩) (Nat.le_refl _) (.int .i32 y))
      clear hxl
      go_wp2
      go_roundw
      case rel => exact ⟨k + 1, _, by omega, by go_num, HS.out, HXS.out, HB3.out⟩
      case measure => simp [intOf]; omega
    · have HE := Lib.hid (rcells_of HO.out.1 (fun j hj => HX.out j hj (by omega)))
      go_wp2
      go_ret
      exact ⟨_, _, rfl, by have := HO.out; rw [HE.out] at this; exact this, HB.out⟩
set_option maxRecDepth 100000 in
set_option maxHeartbeats 1000000 in
theorem laws_toTable (a : Option Addr) (len cap : Nat) (zs : List (Int × Int)) (w : World) (hl : Lies w w.heap.size 2 a len (rcells zs)) (hlen : len ≤ 17592186044416) :
    Calls Tryd.prog 16 #[.agg #[.slice a len cap]] w (NewTable zs w) := by
  have hb0 : Below w.heap.size w (((w.alloc (.cells #[.slice a len cap] 24)).alloc (.cells #[.slice none 0 0] 29)).alloc (.cells #[.slice none 0 0] 29)) :=
    (((Below.refl _ w).alloc (Nat.le_refl _) _).alloc (by simp) _).alloc (by simp; omega) _
  have HL := Lib.hid (hl.later hb0)
  have HB := Lib.hid hb0
  clear hl hb0
  go_enter Tryd.func16, Tryd.ntmps16
  go_wp2_with fail
  refine (laws_toRowS a len cap zs _ HL.out hlen).mono ?_; rintro e w1 ⟨a', cap', rfl, hown1, hb1⟩
  obtain ⟨hcs, hfs, hsz⟩ := three_blocks hb1
  obtain ⟨k00, k10, k20⟩ := hcs 0
  obtain ⟨f00, f10, f20⟩ := hfs 0
  have HO := Lib.hid hown1
  have B1 := Lib.hid (HB.out.trans (hb1.mono HB.out.size))
  clear hcs hfs hown1 hb1
  simp only [List.getElem?_toArray, List.getElem?_cons_zero] at k00 k10 k20
  have e3 : ((w1.setCell ⟨w.heap.size + 1 + 1, 0, none⟩ (.slice a' zs.length cap')).setCell ⟨w.heap.size + 1, 0, none⟩ (.slice a' zs.length cap')).cell? ⟨w.heap.size + 1, 0, none⟩ = some (.slice a' zs.length cap') :=
    World.cell?_setCell_same _ _ _ ((World.cell?_setCell_other _ _ _ _ (by simp)).trans k10)
  have hq : w.heap.size + 1 + 1 < (((w.alloc (.cells #[.slice a len cap] 24)).alloc (.cells #[.slice none 0 0] 29)).alloc (.cells #[.slice none 0 0] 29)).heap.size := by simp only [World.size_alloc]; omega
  have ho2 := ownsRow_setCell_below (ownsRow_setCell_below HO.out (a := ⟨w.heap.size + 1 + 1, 0, none⟩) hq (.slice a' zs.length cap')) (a := ⟨w.heap.size + 1, 0, none⟩) (Nat.lt_trans (Nat.lt_succ_self _) hq) (.slice a' zs.length cap')
  have hb2 := (B1.out.setCell (p := ⟨w.heap.size + 1 + 1, 0, none⟩) (by show w.heap.size ≤ w.heap.size + 1 + 1; omega) (.slice a' zs.length cap')).setCell (p := ⟨w.heap.size + 1, 0, none⟩) (by show w.heap.size ≤ w.heap.size + 1; omega) (.slice a' zs.length cap')
  have HO2 := Lib.hid ho2; have HB2 := Lib.hid hb2; have HE3 := Lib.hid e3
  clear ho2 hb2 e3 hq
  go_wp2_with fail
  exact bodyPost_ret (v := .agg #[.slice a' zs.length cap']) (by simp [results, Tryd.results16, go_sem, HE3.out]) rfl ⟨a', cap', rfl, Lies.of_own HO2.out, HB2.out⟩
set_option maxRecDepth 100000 in
set_option maxHeartbeats 2000000 in
theorem laws_eqRowS (a b : Option Addr) (c d : Nat) (zs : List (Int × Int)) (w : World) (ha : Lies w w.heap.size 2 a zs.length (rcells zs)) (hb : Lies w w.heap.size 2 b zs.length (rcells zs)) (hlen : zs.length ≤ 17592186044416) :
    Calls Tryd.prog 36 #[.slice a zs.length c, .slice b zs.length d] w fun e w' => e = .returned (.bool true) ∧ Below w.heap.size w w' := by
  have HA := Lib.hid ha; have HBB := Lib.hid hb; clear ha hb
  go_enter Tryd.func36, Tryd.ntmps36
  go_wp2
  go_loopw [5] (fun vi wr => ∃ k : Nat, k ≤ zs.length ∧ vi = .int .i64 (k : Int) ∧ Hid (Below w.heap.size w wr)) (fun vi _ => zs.length - (intOf vi).toNat)
  case atStart => exact ⟨0, Nat.zero_le _, rfl, Below.refl _ _⟩
  case round =>
    obtain ⟨k, hk, rfl, HB⟩ := hrel
    by_cases hlt : k < zs.length
    · obtain ⟨g, o, rfl, hg, c0, c1⟩ := row_cell (HA.out.later HB.out) k hlt
      obtain ⟨g', o', rfl, hg', d0, d1⟩ := row_cell (HBB.out.later HB.out) k hlt
      generalize zs[k].1 = x at *
      generalize zs[k].2 = y at *
      go_wp2_with fail
      go_region_held3 (fun w' => w'.cell? ⟨g, o + k * 2, none⟩ = some (.int .i32 x) ∧ w'.cell? ⟨g, o + k * 2 + 1, none⟩ = some (.int .i32 y) ∧ w'.cell? ⟨g', o' + k * 2, none⟩ = some (.int .i32 x) ∧ w'.cell? ⟨g', o' + k * 2 + 1, none⟩ = some (.int .i32 y))
        (first | go_keep | exact ⟨(hb2.cell (p := ⟨g, o + k * 2, none⟩) hg).trans c0, (hb2.cell (p := ⟨g, o + k * 2 + 1, none⟩) hg).trans c1, (hb2.cell (p := ⟨g', o' + k * 2, none⟩) hg').trans d0, (hb2.cell (p := ⟨g', o' + k * 2 + 1, none⟩) hg').trans d1⟩)
        ((go_at_call 58; refine (laws_eqRow x y _).mono ?_; rintro e w2 ⟨rfl, hb2⟩))
      have HB2 := Lib.hid (HB.out.drew.trans (hb2.mono HB.out.size))
      clear hb2 c0 c1 d0 d1
      go_wp2
      go_roundw
      case rel => exact ⟨k + 1, by omega, by go_num, HB2.out⟩
      case measure => simp [intOf]; omega
    · go_wp2
      go_ret
      exact ⟨rfl, HB.out⟩
set_option maxRecDepth 100000 in
set_option maxHeartbeats 2000000 in
theorem laws_eqTable (a b : Option Addr) (c d : Nat) (zs : List (Int × Int)) (w : World) (ha : Lies w w.heap.size 2 a zs.length (rcells zs)) (hb : Lies w w.heap.size 2 b zs.length (rcells zs)) (hlen : zs.length ≤ 17592186044416) :
    Calls Tryd.prog 18 #[.agg #[.slice a zs.length c], .agg #[.slice b zs.length d]] w fun e w' => e = .returned (.bool true) ∧ Below w.heap.size w w' := by
  have hw : Below w.heap.size w ((w.alloc (.cells #[.slice a zs.length c] 29)).alloc (.cells #[.slice b zs.length d] 29)) := ((Below.refl _ w).alloc (Nat.le_refl _) _).alloc (by simp) _
  have C := Lib.hid (laws_eqRowS a b c d zs _ (ha.later hw) (hb.later hw) hlen)
  have HW := Lib.hid hw
  clear ha hb hw
  go_enter Tryd.func18, Tryd.ntmps18
  go_wp2_with fail
  refine C.out.mono ?_; rintro e w2 ⟨rfl, hb2⟩
  have HB2 := Lib.hid (HW.out.trans (hb2.mono HW.out.size)); clear hb2
  go_wp2_with fail
  go_ret
  exact ⟨rfl, HB2.out⟩
end Go.Proofs.YtlgibcphfmjddaaDoor
