/-
  The contract of the reference's runs and FieldsFunc. Conditions: the text's length is at most 2^40; the test's runes lie in memory.
-/
import Derived.Test.YteiginpjahmppaaDoorRuns
namespace Go.Proofs.YteiginpjahmppaaDoor
open Go.RowKit
set_option linter.unusedVariables false

set_option maxRecDepth 100000 in
set_option maxHeartbeats 4000000 in
theorem spec_runs (a : Option Addr) (len cap : Nat) (zs : List Int) (nt : Bool) (s : ByteArray) (w : World) (hs : s.size ≤ 1099511627776) (hl : Lies w w.heap.size 1 a len (ints zs)) (hlen : len ≤ 70368744177664) :
    Calls Tryd.prog 40 #[.string s, .agg #[.slice a len cap, .bool nt]] w (NewStrs (fieldsP (fun x => holdB zs nt x) s) w) := by
  obtain ⟨i0, hi, hz0, hz1, hz2⟩ := info_parts Tryd.infoStr
  have HL := Lib.hid hl
  have HB0 := Lib.hid (show Below w.heap.size w ((w.alloc (.cells #[.slice a len cap, .bool nt] 24)).alloc (.cells #[] 9)) from ((Below.refl _ w).alloc (Nat.le_refl _) _).alloc (by simp) _)
  clear hl
  go_enter Tryd.func40, Tryd.ntmps40
  go_wp2_with fail
  refine (spec_piecesOwn s hs _).mono ?_; rintro e w1 ⟨pa, pc, rfl, hpl, hb1⟩
  have hpn := pcs_len s.data.toList.length 0 s.data.toList (Nat.le_refl _)
  have hpi := pcs_in s.data.toList.length 0 s.data.toList (Nat.le_refl _)
  have hso := pcs_sorted s.data.toList.length 0 s.data.toList (Nat.le_refl _)
  rw [len_data] at hpn hpi
  have HGF := Lib.hid (show fieldsP (fun x => holdB zs nt x) s = (spans (fun x => holdB zs nt x) s.size none (pcs 0 s.data.toList)).map (cut s) from rfl)
  generalize hps : pcs 0 s.data.toList = ps at *
  have HP := Lib.hid (own_base hpl (show w.heap.size ≤ _ by simp; omega))
  have HPI := Lib.hid hpi
  have HSO := Lib.hid hso
  have hbx : Box w1 w.heap.size 24 #[.slice a len cap, .bool nt] := (((Box.new w _ _).alloc _).below hb1 (by simp; omega))
  have hown : w1.ownsRow w.heap.size 9 1 (.slice (some ⟨w.heap.size + 1, 0, none⟩) 0 0) 0 [] := by
    have h0 := World.ownsRow_lit (base := w.heap.size) (e := 9) (size := 1) (w.alloc (.cells #[.slice a len cap, .bool nt] 24)) #[] 0 (by simp) (Nat.zero_le _) rfl
    have h1 := own_later h0 hb1
    simpa using h1
  have s1 : w.heap.size + 1 < w1.heap.size := by have := hb1.size; simp at this; omega
  have B1 := Lib.hid (HB0.out.trans (hb1.mono (by simp; omega)))
  have HO1 := Lib.hid hown
  have HX := Lib.hid hbx
  have HPS := Lib.hid hps
  clear hpl hpi hps hown hb1 hbx hso
  go_wp2_with fail
  go_loopw [5, 7, 8] (fun v vf vi wr => ∃ (k : Nat) (st : Option Nat) (done : List (Nat × Nat)), k ≤ ps.length ∧ vi = .int .i64 (k : Int) ∧ vf = .int .i64 (stZ st) ∧ Hid (RunRel (fun x => holdB zs nt x) s.size ps k st done) ∧
      Hid (wr.ownsRow w.heap.size 9 1 v done.length (strs (done.map (cut s)))) ∧ Hid (v ≠ .slice none 0 0) ∧ Hid (wr.ownsRow w.heap.size 58 4 (.slice pa ps.length pc) ps.length (pcells ps)) ∧ Hid (Box wr w.heap.size 24 #[.slice a len cap, .bool nt]) ∧ Hid (Below w.heap.size w wr)) (fun _ _ vi _ => ps.length - (intOf vi).toNat)
  case atStart => exact ⟨0, none, [], Nat.zero_le _, rfl, rfl, run_start _ _ _, HO1.out, (fun h => by cases h), HP.out, HX.out, B1.out⟩
  case round =>
    clear HO1 HX B1 HP HB0
    obtain ⟨k, st, done, hk, rfl, rfl, HR, HO, HV, HP, HX, HB⟩ := hrel
    have hsz := HB.out.size
    by_cases hlt : k < ps.length
    · obtain ⟨g, o, hpa, hg, c0, c1, c2, c3⟩ := pc_cell (Lies.of_own HP.out) k hlt
      subst hpa
      have x0 : wr.cell? ⟨w.heap.size, 0, none⟩ = some (.slice a len cap) := HX.out.cell 0
      have x1 : wr.cell? ⟨w.heap.size, 1, none⟩ = some (.bool nt) := HX.out.cell 1
      have HLr := Lib.hid (HL.out.later HB.out)
      have hat : ps[k].at_ ≤ s.size := by have := HPI.out _ (List.getElem_mem hlt); omega
      have hdone : done.length ≤ s.size := by have := HR.out.2.1; omega
      clear c1 c3
      cases hh : holdB zs nt (ps[k].r : Int)
      · have HH := Lib.hid hh
        cases st with
        | none =>
          have HN := Lib.hid (run_out_miss HR.out hlt hh hat HSO.out)
          clear hh
          simp only [stZ]
          go_wp2_with fail
          go_still_tail 6, (by kernel_rfl)
          change wpList _ _ _ _ _ wr.drew
          go_wp2_with fail
          refine (spec_holds a len cap zs nt _ wr.drew HLr.out hlen).mono ?_; rintro e w2 ⟨rfl, hb2⟩; rw [HH.out]
          have d0 : w2.cell? ⟨g, o + k * 4, none⟩ = some (.int .i64 (ps[k].at_ : Int)) := (hb2.cell (p := ⟨g, o + k * 4, none⟩) hg).trans c0
          have HO2 := Lib.hid (own_later (w := wr.drew) HO.out hb2); have HP2 := Lib.hid (own_later (w := wr.drew) HP.out hb2); have HX2 := Lib.hid (Box.later (w := wr.drew) HX.out hb2)
          have HB2 := Lib.hid (HB.out.drew.trans (hb2.mono HB.out.size))
          clear hb2
          go_wp2_with fail
          go_roundw
          case rel => exact ⟨k + 1, some ps[k].at_, done, by omega, by go_num, rfl, HN.out, HO2.out, HV.out, HP2.out, HX2.out, HB2.out⟩
          case measure => simp [intOf]; omega
        | some b =>
          have HN := Lib.hid (run_in_miss HR.out hlt hh)
          clear hh
          simp only [stZ]
          go_wp2_with fail
          go_still_tail 6, (by kernel_rfl)
          change wpList _ _ _ _ _ wr.drew
          go_wp2_with fail
          refine (spec_holds a len cap zs nt _ wr.drew HLr.out hlen).mono ?_; rintro e w2 ⟨rfl, hb2⟩; rw [HH.out]
          have HO2 := Lib.hid (own_later (w := wr.drew) HO.out hb2); have HP2 := Lib.hid (own_later (w := wr.drew) HP.out hb2); have HX2 := Lib.hid (Box.later (w := wr.drew) HX.out hb2)
          have HB2 := Lib.hid (HB.out.drew.trans (hb2.mono HB.out.size))
          clear hb2
          go_wp2_with fail
          go_roundw
          case rel => exact ⟨k + 1, some b, done, by omega, by go_num, rfl, HN.out, HO2.out, HV.out, HP2.out, HX2.out, HB2.out⟩
          case measure => simp [intOf]; omega
      · have HH := Lib.hid hh
        cases st with
        | none =>
          have HN := Lib.hid (run_out_hit HR.out hlt hh)
          clear hh
          simp only [stZ]
          go_wp2_with fail
          go_still_tail 6, (by kernel_rfl)
          change wpList _ _ _ _ _ wr.drew
          go_wp2_with fail
          refine (spec_holds a len cap zs nt _ wr.drew HLr.out hlen).mono ?_; rintro e w2 ⟨rfl, hb2⟩; rw [HH.out]
          have HO2 := Lib.hid (own_later (w := wr.drew) HO.out hb2); have HP2 := Lib.hid (own_later (w := wr.drew) HP.out hb2); have HX2 := Lib.hid (Box.later (w := wr.drew) HX.out hb2)
          have HB2 := Lib.hid (HB.out.drew.trans (hb2.mono HB.out.size))
          clear hb2
          go_wp2_with fail
          go_roundw
          case rel => exact ⟨k + 1, none, done, by omega, by go_num, rfl, HN.out, HO2.out, HV.out, HP2.out, HX2.out, HB2.out⟩
          case measure => simp [intOf]; omega
        | some b =>
          have HN := Lib.hid (run_in_hit HR.out hlt hh)
          have hba : b ≤ ps[k].at_ := ((HR.out.2.2 b rfl).2 k hlt (Nat.le_refl _))
          clear hh
          simp only [stZ]
          go_wp2_with fail
          go_still_tail 6, (by kernel_rfl)
          change wpList _ _ _ _ _ wr.drew
          go_wp2_with fail
          refine (spec_holds a len cap zs nt _ wr.drew HLr.out hlen).mono ?_; rintro e w2 ⟨rfl, hb2⟩; rw [HH.out]
          have d0 : w2.cell? ⟨g, o + k * 4, none⟩ = some (.int .i64 (ps[k].at_ : Int)) := (hb2.cell (p := ⟨g, o + k * 4, none⟩) hg).trans c0
          have HO2 := Lib.hid (own_later (w := wr.drew) HO.out hb2); have HP2 := Lib.hid (own_later (w := wr.drew) HP.out hb2); have HX2 := Lib.hid (Box.later (w := wr.drew) HX.out hb2)
          have HB2 := Lib.hid (HB.out.drew.trans (hb2.mono HB.out.size))
          have hs2 := HB2.out.size
          clear hb2
          go_wp2_with (at_builtin; refine wpList_append_own _ rfl _ _ 26 rfl w.heap.size 9 i0 (.string ⟨#[]⟩) 1 16 Tryd.underlying26 hi hz0 hz1 hz2 rfl (by decide) u5 done.length (strs (done.map (cut s))) rfl (HO2.out.alloc _) ⟨w2.heap.size, 0, none⟩ 1 1 [.string (s.extract b ps[k].at_)] rfl rfl (cell_one_new _ _ _) (str_one _) (by unfold maxLen; omega) (by omega) (by simp; omega) ?_; intro v' w3 hown3 hgrow3 hnil3)
          have HV3 := Lib.hid (show v' ≠ .slice none 0 0 from fun h => HV.out (hnil3.1 h).1)
          have hX3 := (HX2.out.alloc (.cells #[.string (s.extract b ps[k].at_)] 9)).grown hgrow3 ((HX2.out.alloc (.cells #[.string (s.extract b ps[k].at_)] 9)).apart (HO2.out.alloc (.cells #[.string (s.extract b ps[k].at_)] 9)) (by decide))
          have hP3 := (HP2.out.alloc (.cells #[.string (s.extract b ps[k].at_)] 9)).kept hgrow3 (own_apart (HP2.out.alloc (.cells #[.string (s.extract b ps[k].at_)] 9)) (HO2.out.alloc (.cells #[.string (s.extract b ps[k].at_)] 9)) (by decide))
          have hO3 : w3.ownsRow w.heap.size 9 1 v' (done ++ [(b, ps[k].at_)]).length (strs ((done ++ [(b, ps[k].at_)]).map (cut s))) := by rw [cut_snoc, List.length_append]; exact hown3
          have hB3 := (HB2.out.alloc hs2 (.cells #[.string (s.extract b ps[k].at_)] 9)).grown hgrow3 (by simp; omega) (fun q h => ((HO2.out.alloc (.cells #[.string (s.extract b ps[k].at_)] 9)).lt q h).1)
          exact ⟨⟨k + 1, none, done ++ [(b, ps[k].at_)], by omega, by go_num, rfl, HN.out, hO3, HV3, hP3, hX3, hB3⟩, by simp [intOf]; omega⟩
    · obtain rfl : k = ps.length := by omega
      cases st with
      | none =>
        have HE := Lib.hid (show fieldsP (fun x => holdB zs nt x) s = done.map (cut s) by rw [HGF.out, run_end_none HR.out])
        obtain ⟨g', c', hv⟩ := own_some HO.out HV.out
        have HVV := Lib.hid hv; clear hv
        simp only [stZ]
        go_wp2_with fail
        go_ret
        refine ⟨g', c', ?_, ?_, HB.out⟩
        · rw [HE.out, List.length_map, ← HVV.out]; rfl
        · rw [HE.out, List.length_map]; have := HO.out; rw [HVV.out] at this; exact this
      | some b =>
        have HE := Lib.hid (show fieldsP (fun x => holdB zs nt x) s = (done ++ [(b, s.size)]).map (cut s) by rw [HGF.out, run_end_some HR.out])
        have hbs : b ≤ s.size := (HR.out.2.2 b rfl).1
        have hdone : done.length ≤ s.size := by have := HR.out.2.1; omega
        simp only [stZ]
        go_wp2_with (at_builtin; refine wpList_append_own _ rfl _ _ 26 rfl w.heap.size 9 i0 (.string ⟨#[]⟩) 1 16 Tryd.underlying26 hi hz0 hz1 hz2 rfl (by decide) u5 done.length (strs (done.map (cut s))) rfl (HO.out.alloc _) ⟨wr.heap.size, 0, none⟩ 1 1 [.string (s.extract b s.size)] rfl rfl (cell_one_new _ _ _) (str_one _) (by unfold maxLen; omega) (by omega) (by simp; omega) ?_; intro v' w3 hown3 hgrow3 hnil3)
        have hV3 : v' ≠ .slice none 0 0 := fun h => HV.out (hnil3.1 h).1
        have hO3 : w3.ownsRow w.heap.size 9 1 v' (done ++ [(b, s.size)]).length (strs ((done ++ [(b, s.size)]).map (cut s))) := by rw [cut_snoc, List.length_append]; exact hown3
        have hB3 := (HB.out.alloc hsz (.cells #[.string (s.extract b s.size)] 9)).grown hgrow3 (by simp; omega) (fun q h => ((HO.out.alloc (.cells #[.string (s.extract b s.size)] 9)).lt q h).1)
        obtain ⟨g', c', hv⟩ := own_some hO3 hV3
        go_ret
        refine ⟨g', c', ?_, ?_, hB3⟩
        · rw [HE.out, List.length_map, ← hv]; rfl
        · rw [HE.out, List.length_map]; rw [hv] at hO3; exact hO3
end Go.Proofs.YteiginpjahmppaaDoor
