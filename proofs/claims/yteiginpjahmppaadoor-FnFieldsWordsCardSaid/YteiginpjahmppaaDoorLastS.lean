/-
  Contracts of the reference's last, trimRight and those who call them, and of Size. Conditions: the text's length is at most 2^40; the test's runes lie in memory, at most 2^45 of them.
-/
import Derived.Test.YteiginpjahmppaaDoorFirst
import Derived.Test.YteiginpjahmppaaDoorTexts
import Derived.Deep.RegionHeld3
namespace Go.Proofs.YteiginpjahmppaaDoor
open Go.RowKit
set_option linter.unusedVariables false

theorem take_succ_pc (ps : List Pc) (k : Nat) (hk : k < ps.length) : ps.take (k + 1) = ps.take k ++ [ps[k]] := List.take_succ_eq_append_getElem hk
theorem last_hit (p : Nat → Bool) (ps : List Pc) (k : Nat) (hk : k < ps.length) (hp : p ps[k].r = true) : lastAt p (ps.take (k + 1)) = (ps[k].at_ : Int) := by
  rw [take_succ_pc ps k hk, lastAt_snoc, if_pos hp]
theorem last_miss (p : Nat → Bool) (ps : List Pc) (k : Nat) (hk : k < ps.length) (hp : p ps[k].r = false) : lastAt p (ps.take (k + 1)) = lastAt p (ps.take k) := by
  rw [take_succ_pc ps k hk, lastAt_snoc, if_neg (by simp [hp])]
theorem endP_hit (p : Nat → Bool) (ps : List Pc) (k : Nat) (hk : k < ps.length) (hp : p ps[k].r = false) : endP p (ps.take (k + 1)).reverse = ps[k].at_ + ps[k].size := by
  rw [take_succ_pc ps k hk, List.reverse_append]; simp [endP, hp]
theorem endP_miss (p : Nat → Bool) (ps : List Pc) (k : Nat) (hk : k < ps.length) (hp : p ps[k].r = true) : endP p (ps.take (k + 1)).reverse = endP p (ps.take k).reverse := by
  rw [take_succ_pc ps k hk, List.reverse_append]; simp [endP, hp]
set_option maxRecDepth 100000 in
set_option maxHeartbeats 2000000 in
theorem spec_trimRight (a : Option Addr) (len cap : Nat) (zs : List Int) (nt : Bool) (s : ByteArray) (w : World) (hs : s.size ≤ 1099511627776) (hl : Lies w w.heap.size 1 a len (ints zs)) (hlen : len ≤ 70368744177664) :
    Calls Tryd.prog 36 #[.string s, .agg #[.slice a len cap, .bool nt]] w fun e w' => e = .returned (.string (trimR (fun x => holdB zs nt x) s)) ∧ Below w.heap.size w w' := by
  have hb0 : Below w.heap.size w (w.alloc (.cells #[.slice a len cap, .bool nt] 24)) := (Below.refl _ w).alloc (Nat.le_refl _) _
  have HB0 := Lib.hid hb0
  have HL := Lib.hid hl
  clear hb0 hl
  have HTR := Lib.hid (show trimR (fun x => holdB zs nt x) s = s.extract 0 (endP (fun x => holdB zs nt x) (pcs 0 s.data.toList).reverse) from rfl)
  go_enter Tryd.func36, Tryd.ntmps36
  go_wp2_with fail
  refine (spec_pieces s hs _).mono ?_; rintro e w1 ⟨pa, pc, rfl, hpl, hb1⟩
  have HP := Lib.hid hpl
  have HB1 := Lib.hid hb1
  have hpn := pcs_len s.data.toList.length 0 s.data.toList (Nat.le_refl _)
  have hpi := pcs_in s.data.toList.length 0 s.data.toList (Nat.le_refl _)
  rw [len_data] at hpn hpi
  generalize hps : pcs 0 s.data.toList = ps at *
  have HPI := Lib.hid hpi
  clear hpl hps hpi
  have hbox : w1.cell? ⟨w.heap.size, 0, none⟩ = some (.slice a len cap) ∧ w1.cell? ⟨w.heap.size, 1, none⟩ = some (.bool nt) := by
    constructor
    · rw [hb1.cell (p := ⟨w.heap.size, 0, none⟩) (by simp), World.cell?_alloc_at _ _ _ _ rfl]; rfl
    · rw [hb1.cell (p := ⟨w.heap.size, 1, none⟩) (by simp), World.cell?_alloc_at _ _ _ _ rfl]; rfl
  have hsz : w.heap.size < w1.heap.size := by have := hb1.size; simp at this; omega
  have HX := Lib.hid hbox
  clear hbox hb1
  go_wp2_with fail
  go_loopw [6] (fun vi wr => ∃ k : Nat, k ≤ ps.length ∧ vi = .int .i64 ((k : Int) - 1) ∧ Hid (endP (fun x => holdB zs nt x) (ps.take k).reverse = endP (fun x => holdB zs nt x) ps.reverse) ∧ Hid (Below w1.heap.size w1 wr)) (fun vi _ => (intOf vi + 1).toNat)
  case atStart => exact ⟨ps.length, Nat.le_refl _, rfl, Lib.hid (by rw [List.take_length]), Below.refl _ _⟩
  case round =>
    obtain ⟨k', hk', rfl, HF, HW⟩ := hrel
    have HBw := Lib.hid ((HB0.out.trans (HB1.out.mono (by simp))).trans (HW.out.mono (by omega)))
    rcases k' with _ | k
    · have HF2 := Lib.hid (show (⟨#[]⟩ : ByteArray) = s.extract 0 (endP (fun x => holdB zs nt x) ps.reverse) by rw [← HF.out]; apply ByteArray.ext; simp [endP])
      rw [show ((0 : Nat) : Int) - 1 = -1 by omega]
      go_wp2_with fail
      go_ret
      exact ⟨ret_str (by rw [HTR.out]; exact HF2.out), HBw.out⟩
    · have hlt : k < ps.length := by omega
      rw [show ((k + 1 : Nat) : Int) - 1 = (k : Int) by omega]
      obtain ⟨g, o, rfl, hg, c0, c1, c2, c3⟩ := pc_cell HP.out k hlt
      have x0 : wr.cell? ⟨w.heap.size, 0, none⟩ = some (.slice a len cap) := (HW.out.cell (p := ⟨w.heap.size, 0, none⟩) hsz).trans HX.out.1
      have x1 : wr.cell? ⟨w.heap.size, 1, none⟩ = some (.bool nt) := (HW.out.cell (p := ⟨w.heap.size, 1, none⟩) hsz).trans HX.out.2
      have d0 : wr.cell? ⟨g, o + k * 4, none⟩ = some (.int .i64 (ps[k].at_ : Int)) := (HW.out.cell (p := ⟨g, o + k * 4, none⟩) hg).trans c0
      have d1 : wr.cell? ⟨g, o + k * 4 + 1, none⟩ = some (.int .i64 (ps[k].size : Int)) := (HW.out.cell (p := ⟨g, o + k * 4 + 1, none⟩) hg).trans c1
      have d2 : wr.cell? ⟨g, o + k * 4 + 2, none⟩ = some (.int .i32 (ps[k].r : Int)) := (HW.out.cell (p := ⟨g, o + k * 4 + 2, none⟩) hg).trans c2
      clear c0 c1 c2 c3
      have HLr := Lib.hid (HL.out.later HBw.out)
      have hgr : g < wr.heap.size := by have := HW.out.size; omega
      obtain ⟨q1, q2, q3⟩ := HPI.out _ (List.getElem_mem hlt)
      cases hh : holdB zs nt (ps[k].r : Int)
      · have HF2 := Lib.hid ((endP_hit (fun x => holdB zs nt x) ps k hlt hh).symm.trans HF.out)
        have HH := Lib.hid hh; clear hh
        go_wp2_with fail
        go_still_tail 6, (by kernel_rfl)
        change wpList _ _ _ _ _ wr.drew
        go_wp2_with fail
        refine (spec_holds a len cap zs nt _ wr.drew HLr.out hlen).mono ?_; rintro e w2 ⟨rfl, hb2⟩; rw [HH.out]
        have d0' : w2.cell? ⟨g, o + k * 4, none⟩ = some (.int .i64 (ps[k].at_ : Int)) := (hb2.cell (p := ⟨g, o + k * 4, none⟩) hgr).trans d0
        have d1' : w2.cell? ⟨g, o + k * 4 + 1, none⟩ = some (.int .i64 (ps[k].size : Int)) := (hb2.cell (p := ⟨g, o + k * 4 + 1, none⟩) hgr).trans d1
        have hb3 := Lib.hid (HBw.out.drew.trans (hb2.mono HBw.out.size)); clear hb2
        generalize ps[k] = P at *
        go_wp2_with fail
        go_quiet (fail)
        go_wp2_with fail
        go_ret
        refine ⟨ret_str ?_, Below.trans hb3.out (Dr.below ⟨_, rfl⟩ _)⟩
        rw [HTR.out, ← HF2.out]
      · have HF2 := Lib.hid ((endP_miss (fun x => holdB zs nt x) ps k hlt hh).symm.trans HF.out)
        have HH := Lib.hid hh; clear hh
        go_wp2_with fail
        go_still_tail 6, (by kernel_rfl)
        change wpList _ _ _ _ _ wr.drew
        go_wp2_with fail
        refine (spec_holds a len cap zs nt _ wr.drew HLr.out hlen).mono ?_; rintro e w2 ⟨rfl, hb2⟩; rw [HH.out]
        have hb3 := Lib.hid (HW.out.drew.trans (hb2.mono HW.out.size)); clear hb2
        go_wp2_with fail
        go_roundw
        case rel => exact ⟨k, by omega, rfl, HF2.out, hb3.out⟩
        case measure => first | (simp [intOf]; done) | (simp [intOf]; omega)
theorem trimL_size (p : Nat → Bool) (s : ByteArray) : (trimL p s).size ≤ s.size := by rw [← trimLeft_is]; exact trimLeftF_size p s
set_option maxRecDepth 100000 in
set_option maxHeartbeats 1000000 in
theorem spec_TrimFunc (a : Option Addr) (len cap : Nat) (zs : List Int) (nt : Bool) (s : ByteArray) (w : World) (hs : s.size ≤ 1099511627776) (hl : Lies w w.heap.size 1 a len (ints zs)) (hlen : len ≤ 70368744177664) :
    Calls Tryd.prog 17 #[.string s, .agg #[.slice a len cap, .bool nt]] w fun e w' => e = .returned (.string (trimR (fun x => holdB zs nt x) (trimL (fun x => holdB zs nt x) s))) ∧ Below w.heap.size w w' := by
  have hb0 : Below w.heap.size w (w.alloc (.cells #[.slice a len cap, .bool nt] 24)) := (Below.refl _ w).alloc (Nat.le_refl _) _
  have HL := Lib.hid (show Lies (w.alloc (.cells #[.slice a len cap, .bool nt] 24)).drew (w.alloc (.cells #[.slice a len cap, .bool nt] 24)).drew.heap.size 1 a len (ints zs) from hl.later hb0.drew)
  have hx := heap_alloc_new w (.cells #[.slice a len cap, .bool nt] 24)
  obtain ⟨x0, x1⟩ := two_cells hx
  have HB := Lib.hid hb0.drew
  have hsz := Nat.le_trans (trimL_size (fun x => holdB zs nt x) s) hs
  clear hl hb0 hx
  go_enter Tryd.func17, Tryd.ntmps17
  go_wp2_with fail
  go_region_held3 (fun w' => w'.cell? ⟨w.heap.size, 0, none⟩ = some (.slice a len cap) ∧ w'.cell? ⟨w.heap.size, 1, none⟩ = some (.bool nt))
    (first | go_keep | exact ⟨(hb1.cell (p := ⟨w.heap.size, 0, none⟩) (by simp)).trans x0, (hb1.cell (p := ⟨w.heap.size, 1, none⟩) (by simp)).trans x1⟩ | exact ⟨(hb2.cell (p := ⟨w.heap.size, 0, none⟩) (by have := hb1.size; simp at this; show w.heap.size < _; omega)).trans ((hb1.cell (p := ⟨w.heap.size, 0, none⟩) (by simp)).trans x0), (hb2.cell (p := ⟨w.heap.size, 1, none⟩) (by have := hb1.size; simp at this; show w.heap.size < _; omega)).trans ((hb1.cell (p := ⟨w.heap.size, 1, none⟩) (by simp)).trans x1)⟩)
    (first | (go_at_call 37; refine (spec_trimLeft a len cap zs nt s _ hs (by exact HL.out) hlen).mono ?_; rintro e w1 ⟨rfl, hb1⟩) | (go_at_call 36; refine (spec_trimRight a len cap zs nt _ _ hsz (by exact HL.out.later hb1) hlen).mono ?_; rintro e w2 ⟨rfl, hb2⟩))
  go_wp2_with fail
  go_ret
  exact ⟨rfl, HB.out.trans ((hb1.mono HB.out.size).trans (hb2.mono (Nat.le_trans HB.out.size hb1.size)))⟩
end Go.Proofs.YteiginpjahmppaaDoor
