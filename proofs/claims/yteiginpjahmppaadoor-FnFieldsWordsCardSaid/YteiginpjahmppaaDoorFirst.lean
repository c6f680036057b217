/-
  Contracts of the reference's holds, turned, first, trimLeft and those who call them. Conditions: the text's length is at most 2^40; the test's runes lie in memory, at most 2^45 of them.
-/
import Derived.Test.YteiginpjahmppaaDoorPieces
import Derived.Test.YteiginpjahmppaaDoorPl
import Derived.Test.YteiginpjahmppaaDoorTest
import Derived.StillTailTactics
namespace Go.Proofs.YteiginpjahmppaaDoor
open Go.RowKit
set_option linter.unusedVariables false

set_option maxRecDepth 100000 in
set_option maxHeartbeats 1000000 in
theorem spec_holds (a : Option Addr) (len cap : Nat) (zs : List Int) (nt : Bool) (x : Int) (w : World) (hl : Lies w w.heap.size 1 a len (ints zs)) (hlen : len ≤ 70368744177664) :
    Calls Tryd.prog 54 #[.agg #[.slice a len cap, .bool nt], .int .i32 x] w fun e w' => e = .returned (.bool (holdB zs nt x)) ∧ Below w.heap.size w w' := by
  have hz : zs.length = len := by have := hl.1; simpa [ints] using this
  have HW : Hid (Below w.heap.size w (w.alloc (.cells #[.slice a len cap, .bool nt] 24))) := (Below.refl _ w).alloc (Nat.le_refl _) _
  by_cases h0 : len = 0
  · subst h0
    obtain rfl : zs = [] := List.length_eq_zero_iff.1 hz
    clear hl hz
    go_enter Tryd.func54, Tryd.ntmps54
    go_wp2
    refine wp_loop_rounds 1 ?_; rw [rounds_succ]
    go_wp2
    go_ret
    exact ⟨rfl, HW.out⟩
  · obtain ⟨g, o, rfl, hg, hc0⟩ := hl.2 (by omega)
    have hc : ∀ k (hk : k < zs.length), (w.alloc (.cells #[.slice (some ⟨g, o, none⟩) len cap, .bool nt] 24)).cell? ⟨g, o + k, none⟩ = some (.int .i32 zs[k]) := fun k hk => by
      rw [World.cell?_alloc_past _ _ _ (by simpa using hg)]
      have := hc0 k (by simpa [ints] using hk)
      simpa [ints] using this
    have HC := Lib.hid hc
    have HZ := Lib.hid hz
    clear hl hc0 hc hz h0
    go_enter Tryd.func54, Tryd.ntmps54
    go_wp2
    go_loop [5] (fun i => ∃ k : Nat, k ≤ len ∧ i = .int .i64 k ∧ Hid (∀ j (hj : j < zs.length), j < k → zs[j] ≠ x)) (fun i => len - (intOf i).toNat)
    case atStart => exact ⟨0, Nat.zero_le _, rfl, fun _ _ h => absurd h (by omega)⟩
    case round =>
      obtain ⟨k, hk, rfl, HN⟩ := hrel
      by_cases hlt : k < len
      · have hkz : k < zs.length := by rw [HZ.out]; exact hlt
        have hcell := HC.out k hkz
        by_cases he : zs[k] = x
        · have hb : (zs[k] == x) = true := by simp [he]
          have HE := Lib.hid (hold_in (nt := nt) hkz he); clear he
          go_wp2
          go_ret
          exact ⟨ret_bool HE.out, HW.out⟩
        · have hb : (zs[k] == x) = false := by simp [he]
          have HE := Lib.hid he; clear he
          go_wp2
          go_round
          case rel => exact ⟨k + 1, by omega, by go_num, fun j hj h => by rcases Nat.lt_succ_iff_lt_or_eq.1 h with h | rfl; exact HN.out j hj h; exact HE.out⟩
          case measure => simp [intOf]; omega
      · go_wp2
        go_ret
        exact ⟨ret_bool (hold_out fun j hj => HN.out j hj (by rw [HZ.out] at hj; omega)), HW.out⟩

/-- what a slice of pieces holds -/
theorem pc_cell {w : World} {B : Nat} {a : Option Addr} {ps : List Pc} (h : Lies w B 4 a ps.length (pcells ps)) (k : Nat) (hk : k < ps.length) :
    ∃ g o, a = some ⟨g, o, none⟩ ∧ g < B ∧ w.cell? ⟨g, o + k * 4, none⟩ = some (.int .i64 (ps[k].at_ : Int)) ∧ w.cell? ⟨g, o + k * 4 + 1, none⟩ = some (.int .i64 (ps[k].size : Int)) ∧
      w.cell? ⟨g, o + k * 4 + 2, none⟩ = some (.int .i32 (ps[k].r : Int)) ∧ w.cell? ⟨g, o + k * 4 + 3, none⟩ = some (.bool ps[k].ok) := by
  obtain ⟨g, o, e, hg, hc⟩ := h.2 (by omega)
  have hlen := pcells_len ps
  have key : ∀ (l : List Pc) (k : Nat) (hk : k < l.length) (j : Nat) (hj : j < 4), (pcells l)[k * 4 + j]? = (pcell l[k])[j]? := by
    intro l
    induction l with
    | nil => intro k hk; simp at hk
    | cons p l ih =>
      intro k hk j hj
      cases k with
      | zero =>
        simp only [pcells, List.flatMap_cons, List.getElem_cons_zero]
        rw [List.getElem?_append_left (by simp [pcell]; omega)]
        simp
      | succ k =>
        simp only [pcells, List.flatMap_cons, List.getElem_cons_succ]
        rw [List.getElem?_append_right (by simp [pcell]; omega)]
        have := ih k (by simpa using hk) j hj
        rw [← this]
        congr 1
        simp [pcell]; omega
  have get : ∀ j (hj : j < 4) (v : Value), (pcell ps[k])[j]? = some v → w.cell? ⟨g, o + k * 4 + j, none⟩ = some v := by
    intro j hj v hv
    have h1 := hc (k * 4 + j) (by rw [hlen]; omega)
    rw [show o + k * 4 + j = o + (k * 4 + j) by omega, h1]
    have h2 := key ps k hk j hj
    rw [hv] at h2
    rw [List.getElem?_eq_getElem (by rw [hlen]; omega)] at h2
    exact h2
  exact ⟨g, o, e, hg, get 0 (by omega) _ rfl, get 1 (by omega) _ rfl, get 2 (by omega) _ rfl, get 3 (by omega) _ rfl⟩
set_option maxRecDepth 100000 in
set_option maxHeartbeats 2000000 in
theorem spec_first (a : Option Addr) (len cap : Nat) (zs : List Int) (nt : Bool) (s : ByteArray) (w : World) (hs : s.size ≤ 1099511627776) (hl : Lies w w.heap.size 1 a len (ints zs)) (hlen : len ≤ 70368744177664) :
    Calls Tryd.prog 55 #[.string s, .agg #[.slice a len cap, .bool nt]] w fun e w' => e = .returned (.int .i64 (firstAt (fun x => holdB zs nt x) (pcs 0 s.data.toList))) ∧ Below w.heap.size w w' := by
  have hb0 : Below w.heap.size w (w.alloc (.cells #[.slice a len cap, .bool nt] 24)) := (Below.refl _ w).alloc (Nat.le_refl _) _
  have HB0 := Lib.hid hb0
  have HL := Lib.hid hl
  clear hb0 hl
  go_enter Tryd.func55, Tryd.ntmps55
  go_wp2_with fail
  refine (spec_pieces s hs _).mono ?_; rintro e w1 ⟨pa, pc, rfl, hpl, hb1⟩
  have HP := Lib.hid hpl
  have HB1 := Lib.hid hb1
  have hpn := pcs_len s.data.toList.length 0 s.data.toList (Nat.le_refl _)
  rw [len_data] at hpn
  generalize hps : pcs 0 s.data.toList = ps at *
  have HPS := Lib.hid hps
  clear hpl hps
  have hbox : w1.cell? ⟨w.heap.size, 0, none⟩ = some (.slice a len cap) ∧ w1.cell? ⟨w.heap.size, 1, none⟩ = some (.bool nt) := by
    constructor
    · rw [hb1.cell (p := ⟨w.heap.size, 0, none⟩) (by simp), World.cell?_alloc_at _ _ _ _ rfl]; rfl
    · rw [hb1.cell (p := ⟨w.heap.size, 1, none⟩) (by simp), World.cell?_alloc_at _ _ _ _ rfl]; rfl
  have hsz : w.heap.size < w1.heap.size := by have := hb1.size; simp at this; omega
  have HX := Lib.hid hbox
  clear hbox hb1
  go_wp2_with fail
  go_loopw [6] (fun vi wr => ∃ k : Nat, k ≤ ps.length ∧ vi = .int .i64 (k : Int) ∧ Hid (firstAt (fun x => holdB zs nt x) (ps.drop k) = firstAt (fun x => holdB zs nt x) ps) ∧ Hid (Below w1.heap.size w1 wr)) (fun vi _ => ps.length - (intOf vi).toNat)
  case atStart => exact ⟨0, Nat.zero_le _, rfl, rfl, Below.refl _ _⟩
  case round =>
    obtain ⟨k, hk, rfl, HF, HW⟩ := hrel
    have HBw := Lib.hid ((HB0.out.trans (HB1.out.mono (by simp))).trans (HW.out.mono (by omega)))
    by_cases hlt : k < ps.length
    · obtain ⟨g, o, rfl, hg, c0, c1, c2, c3⟩ := pc_cell HP.out k hlt
      have x0 : wr.cell? ⟨w.heap.size, 0, none⟩ = some (.slice a len cap) := (HW.out.cell (p := ⟨w.heap.size, 0, none⟩) hsz).trans HX.out.1
      have x1 : wr.cell? ⟨w.heap.size, 1, none⟩ = some (.bool nt) := (HW.out.cell (p := ⟨w.heap.size, 1, none⟩) hsz).trans HX.out.2
      have d0 : wr.cell? ⟨g, o + k * 4, none⟩ = some (.int .i64 (ps[k].at_ : Int)) := (HW.out.cell (p := ⟨g, o + k * 4, none⟩) hg).trans c0
      have d2 : wr.cell? ⟨g, o + k * 4 + 2, none⟩ = some (.int .i32 (ps[k].r : Int)) := (HW.out.cell (p := ⟨g, o + k * 4 + 2, none⟩) hg).trans c2
      clear c0 c1 c2 c3
      have HLr := Lib.hid (HL.out.later HBw.out)
      have hgr : g < wr.heap.size := by have := HW.out.size; omega
      cases hh : holdB zs nt (ps[k].r : Int)
      · have HF2 := Lib.hid ((first_miss (fun x => holdB zs nt x) ps k hlt hh).symm.trans HF.out)
        have HH := Lib.hid hh; clear hh
        go_wp2_with fail
        go_still_tail 6, (by kernel_rfl)
        change wpList _ _ _ _ _ wr.drew
        go_wp2_with fail
        refine (spec_holds a len cap zs nt _ wr.drew HLr.out hlen).mono ?_; rintro e w2 ⟨rfl, hb2⟩; rw [HH.out]
        have hb3 := Lib.hid (HW.out.drew.trans (hb2.mono HW.out.size)); clear hb2
        go_wp2_with fail
        go_roundw
        case rel => exact ⟨k + 1, by omega, by go_num, HF2.out, hb3.out⟩
        case measure => simp [intOf]; omega
      · have HF2 := Lib.hid ((first_hit (fun x => holdB zs nt x) ps k hlt hh).symm.trans HF.out)
        have HH := Lib.hid hh; clear hh
        go_wp2_with fail
        go_still_tail 6, (by kernel_rfl)
        change wpList _ _ _ _ _ wr.drew
        go_wp2_with fail
        refine (spec_holds a len cap zs nt _ wr.drew HLr.out hlen).mono ?_; rintro e w2 ⟨rfl, hb2⟩; rw [HH.out]
        have d0' : w2.cell? ⟨g, o + k * 4, none⟩ = some (.int .i64 (ps[k].at_ : Int)) := (hb2.cell (p := ⟨g, o + k * 4, none⟩) hgr).trans d0
        have hb3 := Lib.hid (HBw.out.drew.trans (hb2.mono HBw.out.size)); clear hb2
        go_wp2_with fail
        go_ret
        exact ⟨ret_int (by rw [HPS.out]; exact HF2.out), hb3.out⟩
    · have HF2 := Lib.hid (show (-1 : Int) = firstAt (fun x => holdB zs nt x) ps by rw [← HF.out, List.drop_of_length_le (by omega)]; rfl)
      go_wp2_with fail
      go_ret
      exact ⟨ret_int (by rw [HPS.out]; exact HF2.out), HBw.out⟩

theorem hold_turn (zs : List Int) (nt : Bool) (x : Int) : holdB zs (!nt) x = !holdB zs nt x := by unfold holdB; split <;> simp
set_option maxHeartbeats 1000000 in
theorem spec_turned (a : Option Addr) (len cap : Nat) (nt : Bool) (w : World) :
    Calls Tryd.prog 56 #[.agg #[.slice a len cap, .bool nt]] w fun e w' => e = .returned (.agg #[.slice a len cap, .bool (!nt)]) ∧ Below w.heap.size w w' := by
  go_enter Tryd.func56, Tryd.ntmps56
  go_wp2
  exact bodyPost_ret (v := .agg #[.slice a len cap, .bool (!nt)]) (by simp [results, Tryd.results56, go_sem]) rfl ⟨rfl, ((Below.refl _ w).alloc (Nat.le_refl _) _).alloc (by simp) _⟩
set_option maxRecDepth 100000 in
set_option maxHeartbeats 1000000 in
theorem spec_trimLeft (a : Option Addr) (len cap : Nat) (zs : List Int) (nt : Bool) (s : ByteArray) (w : World) (hs : s.size ≤ 1099511627776) (hl : Lies w w.heap.size 1 a len (ints zs)) (hlen : len ≤ 70368744177664) :
    Calls Tryd.prog 37 #[.string s, .agg #[.slice a len cap, .bool nt]] w fun e w' => e = .returned (.string (trimL (fun x => holdB zs nt x) s)) ∧ Below w.heap.size w w' := by
  have hb0 : Below w.heap.size w (w.alloc (.cells #[.slice a len cap, .bool nt] 24)) := (Below.refl _ w).alloc (Nat.le_refl _) _
  have HL := Lib.hid hl
  have HB := Lib.hid hb0
  clear hl hb0
  have hr := Lib.idxFunc_range (fun x => holdB zs nt x) false s
  rw [idx_false] at hr
  have hft : firstAt (fun x => holdB zs (!nt) x) (pcs 0 s.data.toList) = firstAt (fun x => !holdB zs nt x) (pcs 0 s.data.toList) := first_congr (fun x => hold_turn zs nt x) _
  have htl : trimL (fun x => holdB zs nt x) s = if firstAt (fun x => !holdB zs nt x) (pcs 0 s.data.toList) < 0 then ⟨#[]⟩ else s.extract (firstAt (fun x => !holdB zs nt x) (pcs 0 s.data.toList)).toNat s.size := rfl
  generalize hn : firstAt (fun x => !holdB zs nt x) (pcs 0 s.data.toList) = n at *
  have HFT := Lib.hid hft
  by_cases h0 : n < 0
  · rw [if_pos h0] at htl
    have HT := Lib.hid htl
    clear hft htl hn
    go_enter Tryd.func37, Tryd.ntmps37
    go_wp2_with fail
    refine (spec_turned a len cap nt _).mono ?_; rintro e w1 ⟨rfl, hb1⟩
    have B1 := Lib.hid (HB.out.trans (hb1.mono HB.out.size)); clear hb1
    go_wp2_with fail
    refine (spec_first a len cap zs (!nt) s _ hs (HL.out.later B1.out) hlen).mono ?_; rintro e w2 ⟨rfl, hb2⟩; rw [HFT.out]
    have B2 := Lib.hid (B1.out.trans (hb2.mono B1.out.size)); clear hb2
    go_wp2_with fail
    go_ret
    exact ⟨ret_str HT.out.symm, B2.out⟩
  · rw [if_neg h0] at htl
    obtain ⟨k, rfl⟩ := Int.eq_ofNat_of_zero_le (show 0 ≤ n by omega)
    have hk : k < s.size := by omega
    have HT := Lib.hid (show s.extract k s.size = trimL (fun x => holdB zs nt x) s by rw [htl]; rfl)
    clear hft htl hn hr h0
    go_enter Tryd.func37, Tryd.ntmps37
    go_wp2_with fail
    refine (spec_turned a len cap nt _).mono ?_; rintro e w1 ⟨rfl, hb1⟩
    have B1 := Lib.hid (HB.out.trans (hb1.mono HB.out.size)); clear hb1
    go_wp2_with fail
    refine (spec_first a len cap zs (!nt) s _ hs (HL.out.later B1.out) hlen).mono ?_; rintro e w2 ⟨rfl, hb2⟩; rw [HFT.out]
    have B2 := Lib.hid (B1.out.trans (hb2.mono B1.out.size)); clear hb2
    go_wp2_with fail
    go_ret
    exact ⟨ret_str HT.out, B2.out⟩
end Go.Proofs.YteiginpjahmppaaDoor
