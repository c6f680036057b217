/-
  The walk of the library's FieldsFunc at a method value of a test. Conditions: the text's length is at most 2^32; what the method value answers is known.
-/
import Derived.Test.YtlgibcphfmjddaaDoorFieldsF
import Derived.Test.YtlgibcphfmjddaaDoorTest
import Derived.Test.YtlgibcphfmjddaaDoorNewS
import Derived.Shelf.Strings.FieldsFuncAny
namespace Go.Proofs.YtlgibcphfmjddaaDoor
open Go.RowKit
set_option linter.unusedVariables false

/-- the texts are filled in, one by one: k are through -/
def FillRel (s : ByteArray) (sp : List (Nat × Nat)) (k : Nat) (xs : List Value) : Prop := xs.length = sp.length ∧ ∀ j (hj : j < sp.length), j < k → xs[j]? = some (.string (cut s sp[j]))
theorem fill_all {s : ByteArray} {sp : List (Nat × Nat)} {xs : List Value} (h : FillRel s sp sp.length xs) : xs = strs (sp.map (cut s)) := by
  apply List.ext_getElem?
  intro j
  by_cases hj : j < sp.length
  · rw [h.2 j hj hj]; simp [strs, hj]
  · rw [List.getElem?_eq_none (by rw [h.1]; omega), List.getElem?_eq_none (by simp [strs]; omega)]
theorem fill_step {s : ByteArray} {sp : List (Nat × Nat)} {k : Nat} {xs : List Value} (h : FillRel s sp k xs) (hk : k < sp.length) : FillRel s sp (k + 1) (xs.set k (.string (cut s sp[k]))) := by
  refine ⟨by simpa using h.1, fun j hj hlt => ?_⟩
  by_cases e : j = k
  · subst e; simp [h.1, hk]
  · rw [List.getElem?_set_ne (by omega)]; exact h.2 j hj (by omega)

set_option maxRecDepth 100000 in
set_option maxHeartbeats 4000000 in
theorem lib_FieldsFunc (r : Value) (p : Nat → Bool) (s : ByteArray) (w : World) (hs : s.size ≤ 4294967296) (hp : PredB r p w) :
    Calls Tryd.prog 41 #[.string s, .func (.func 42) #[r] #[]] w (NewStrs (fieldsP p s) w) := by
  obtain ⟨i0, hi, hz0, hz1, hz2⟩ := info_parts Tryd.infoSpan
  obtain ⟨j0, hj, hy0, hy1, hy2⟩ := info_parts Tryd.infoStr
  obtain ⟨W0, hmk, hown0, hg0⟩ := run_make_own (P := Tryd.prog) w w.heap.size 90 92 i0 _ 2 Tryd.underlying90 hi hz0 hz1 .i64 .i64 32 (by rw [hz2]; decide) (by unfold maxLen; decide) (Nat.le_refl _)
  rw [show ((32 : Nat) : Int) = 32 from rfl] at hmk
  have hb0 : Below w.heap.size w W0 := grown_below hg0 (Nat.le_refl _) (fun k hk => by cases hk)
  have HPr := Lib.hid hp
  have HB0 := Lib.hid hb0
  have HO0 := Lib.hid hown0
  have HGF := Lib.hid (show fieldsP p s = (spans p s.size none (pcs 0 s.data.toList)).map (cut s) from rfl)
  clear hp hb0 hown0 hg0
  go_enter Tryd.func41, Tryd.ntmps41
  go_wp2
  go_loopg [5, 6] s.size (fun gf s5 s6 wx => ∃ (pos : Nat) (st : Option Nat) (done : List (Nat × Nat)) (z : Int), s6 = .int .i64 z ∧ Hid (StIs st z) ∧ Hid (FfRel p s pos st done) ∧ pos ≤ s.size ∧ s.size ≤ pos + gf ∧
      Hid (wx.ownsRow w.heap.size 92 2 s5 done.length (spCells done)) ∧ Hid (s5 ≠ .slice none 0 0) ∧ Hid (wx.heap[W0.heap.size]? = some (.stringIter s pos)) ∧ Hid (Below w.heap.size w wx))
  case atStart => exact ⟨0, none, [], -1, rfl, ⟨by decide, fun _ => by decide, (fun a h => by cases h)⟩, ff_start p s, Nat.zero_le _, by omega, HO0.out.alloc _, (fun h => by cases h), World.iter_heap W0 s 0, HB0.out.alloc HB0.out.size _⟩
  case round =>
    clear HO0 hmk
    obtain ⟨pos, st, done, z, rfl, HZ, HR, hps, hfu, HO, HV, HI, HB⟩ := hrel
    by_cases hlt : pos < s.size
    · obtain ⟨g', rfl⟩ : ∃ g', gk = g' + 1 := ⟨gk - 1, by omega⟩
      have hnx : ∀ ty, (Instr.next (.pointer (some ⟨W0.heap.size, 0, none⟩)) true ty).run Tryd.prog wr = _ := fun ty => Lib.run_next_any_at wr W0.heap.size s pos ty HI.out hlt
      have hdl := dec_fit s pos hlt
      have hR1 := fun h => ff_out_hit (p := p) (done := done) (s := s) (pos := pos) h hlt
      have hR2 := fun h => ff_out_miss (p := p) (done := done) (s := s) (pos := pos) h hlt
      have hR3 := fun a h => ff_in_hit (p := p) (done := done) (s := s) (pos := pos) (a := a) h hlt
      have hR4 := fun a h => ff_in_miss (p := p) (done := done) (s := s) (pos := pos) (a := a) h hlt
      have hrl := Lib.rune_le s pos
      obtain ⟨R, hR⟩ : ∃ R, (Utf8.decode s pos).1 = R := ⟨_, rfl⟩
      obtain ⟨K, hK⟩ : ∃ K, (Utf8.decode s pos).2 = K := ⟨_, rfl⟩
      rw [hR] at hrl
      rw [hK] at hdl
      simp only [hR, hK] at hnx hR1 hR2 hR3 hR4
      have H1 := Lib.hid hR1; have H2 := Lib.hid hR2; have H3 := Lib.hid hR3; have H4 := Lib.hid hR4
      have hit2 := Lib.iterAt_heap wr W0.heap.size s pos (pos + K) HI.out
      have hbw2 := Lib.below_iterAt HB.out (k := W0.heap.size) HB0.out.size s (pos + K)
      have hown2 := own_iterAt HO.out HI.out (pos + K)
      obtain ⟨W, hWd⟩ : ∃ W, wr.iterAt W0.heap.size s (pos + K) = W := ⟨_, rfl⟩
      rw [hWd] at hnx hit2 hbw2 hown2
      have hIW : W0.heap.size < W.heap.size := (Array.getElem?_eq_some_iff.1 hit2).1
      have cS := HPr.out W R hrl hbw2
      have HI2 := Lib.hid hit2; have HB2 := Lib.hid hbw2; have HO2 := Lib.hid hown2
      obtain ⟨hdl1, hdl2⟩ := hdl
      clear hit2 hbw2 hown2 hR1 hR2 hR3 hR4 hR hK hrl hWd HO HI HB
      cases hpr : p R <;> rw [hpr] at cS
      · have CS := Lib.hid cS; have HPR := Lib.hid hpr
        clear cS hpr
        cases st with
        | none =>
          have hzn : z < 0 := HZ.out.2.1 rfl
          have HN := Lib.hid (H2.out HR.out HPR.out)
          go_wp2_with (go_at_call 42; refine CS.out.mono ?_; rintro e W' ⟨rfl, hbc⟩)
          go_roundg g'
          case measure => omega
          case rel => exact ⟨pos + K, some pos, done, pos, rfl, ⟨by omega, (fun h => by cases h), (fun a h => by cases h; rfl)⟩, HN.out, by omega, by omega, own_later HO2.out hbc, HV.out, (hbc.block _ hIW).trans HI2.out, HB2.out.trans (hbc.mono HB2.out.size)⟩
        | some a =>
          obtain rfl : z = (a : Int) := HZ.out.2.2 a rfl
          have HN := Lib.hid (H4.out a HR.out HPR.out)
          go_wp2_with (go_at_call 42; refine CS.out.mono ?_; rintro e W' ⟨rfl, hbc⟩)
          go_roundg g'
          case measure => omega
          case rel => exact ⟨pos + K, some a, done, a, rfl, ⟨by omega, (fun h => by cases h), (fun b h => by cases h; rfl)⟩, HN.out, by omega, by omega, own_later HO2.out hbc, HV.out, (hbc.block _ hIW).trans HI2.out, HB2.out.trans (hbc.mono HB2.out.size)⟩
      · have CS := Lib.hid cS; have HPR := Lib.hid hpr
        clear cS hpr
        cases st with
        | none =>
          have hzn : z < 0 := HZ.out.2.1 rfl
          have hzl : -9223372036854775808 ≤ z := HZ.out.1
          have HN := Lib.hid (H1.out HR.out HPR.out)
          go_wp2_with (go_at_call 42; refine CS.out.mono ?_; rintro e W' ⟨rfl, hbc⟩)
          go_roundg g'
          case measure => omega
          case rel => exact ⟨pos + K, none, done, z, rfl, HZ.out, HN.out, by omega, by omega, own_later HO2.out hbc, HV.out, (hbc.block _ hIW).trans HI2.out, HB2.out.trans (hbc.mono HB2.out.size)⟩
        | some a =>
          obtain rfl : z = (a : Int) := HZ.out.2.2 a rfl
          have HN := Lib.hid (H3.out a HR.out HPR.out)
          have hap : a ≤ pos := HR.out.2.2.1 a rfl
          have hdn : done.length ≤ pos := HR.out.2.1
          go_wp2_with (first
            | (go_at_call 42; refine CS.out.mono ?_; rintro e W' ⟨rfl, hbc⟩; have HO3 := Lib.hid (own_later HO2.out hbc); have HI3 := Lib.hid ((hbc.block _ hIW).trans HI2.out); have HB3 := Lib.hid (HB2.out.trans (hbc.mono HB2.out.size)); have hs3 := HB3.out.size; clear hbc)
            | (at_builtin; refine wpList_append_own _ rfl _ _ 90 rfl w.heap.size 92 i0 (.agg #[.int .i64 0, .int .i64 0]) 2 16 Tryd.underlying90 hi hz0 hz1 hz2 rfl (by decide) u5 done.length (spCells done) rfl (HO3.out.alloc _) ⟨W'.heap.size, 0, none⟩ 1 1 [.int .i64 (a : Int), .int .i64 (pos : Int)] rfl rfl (cell_two_new' _ _ _ _) (by intro u hu; simp at hu; rcases hu with rfl | rfl <;> rfl) (by unfold maxLen; omega) (by omega) (by simp; omega) ?_; intro v' w3 hown3 hgrow3 hnil3))
          rw [i64_not a (by omega)]
          have hIlt : W0.heap.size < W'.heap.size := (Array.getElem?_eq_some_iff.1 HI3.out).1
          go_roundg g'
          case measure => omega
          case rel =>
            refine ⟨pos + K, none, done ++ [(a, pos)], -1 - (a : Int), rfl, ⟨by omega, (fun _ => by omega), (fun b h => by cases h)⟩, HN.out, by omega, by omega, ?_, (fun h => HV.out (hnil3.1 h).1), ?_, ?_⟩
            · rw [List.length_append, spCells_snoc]; exact hown3
            · exact (hgrow3.block W0.heap.size (by simp; omega) (own_ne_iter HO3.out HI3.out)).trans ((Below.heap_alloc _ _ _ hIlt).trans HI3.out)
            · exact (HB3.out.alloc hs3 _).grown hgrow3 (by simp; omega) (fun q h => (HO3.out.lt q h).1)
    · obtain rfl : pos = s.size := by omega
      have hnx : ∀ ty, (Instr.next (.pointer (some ⟨W0.heap.size, 0, none⟩)) true ty).run Tryd.prog wr = _ := fun ty => Lib.run_next_end_at wr W0.heap.size s s.size ty HI.out hlt
      have hiz : 16 * (s.size + 1) ≤ 281474976710656 := by omega
      cases st with
      | none =>
        have hzn : z < 0 := HZ.out.2.1 rfl
        obtain ⟨he, hsp, hlen⟩ := ff_end_none HR.out
        have HE := Lib.hid (show fieldsP p s = done.map (cut s) by rw [HGF.out, he])
        have HSP := Lib.hid hsp
        clear he hsp HGF HR
        obtain ⟨gS, cS, hv⟩ := own_some HO.out HV.out
        subst hv
        go_wp2_with (at_make; refine wpList_make_full _ rfl _ _ 45 rfl w.heap.size 9 j0 (.string ⟨#[]⟩) 1 Tryd.underlying45 hj hy0 hy1 .i64 .i64 _ _ done.length rfl rfl rfl rfl (by rw [hy2]; omega) (by unfold maxLen; omega) HB.out.size ?_; intro w4 hown4 hgrow4)
        obtain ⟨wz, hwz⟩ : ∃ wz : World, wz = wr := ⟨_, rfl⟩
        rw [← hwz] at hown4 hgrow4 HO HB ⊢
        have HOwz := HO.out; have HBwz := HB.out
        clear hwz HI HO HB HV HZ hnx hfu wr
        have HS4 := Lib.hid (HOwz.kept (row := none) hgrow4 (Classical.em _))
        have HB4 := Lib.hid (HBwz.grown hgrow4 HBwz.size (fun q h => by cases h))
        have hz4 : wz.heap.size < w4.heap.size := (hown4.lt _ rfl).2
        have HO4 := Lib.hid hown4
        clear hown4 hgrow4
        go_loopw [49] (fun vi wx => ∃ (k : Nat) (xs : List Value), k ≤ done.length ∧ vi = .int .i64 (k : Int) ∧ Hid (FillRel s done k xs) ∧ Hid (wx.ownsRow w.heap.size 9 1 (.slice (some ⟨wz.heap.size, 0, none⟩) done.length done.length) done.length xs) ∧ Hid (wx.ownsRow w.heap.size 92 2 (.slice (some ⟨gS, 0, none⟩) done.length cS) done.length (spCells done)) ∧ Hid (Below w.heap.size w wx) ∧ wz.heap.size < wx.heap.size) (fun vi _ => done.length - (intOf vi).toNat)
        case atStart => exact ⟨0, _, Nat.zero_le _, rfl, ⟨by have := HO4.out.1; omega, fun _ _ h => absurd h (by omega)⟩, HO4.out, HS4.out, HB4.out, hz4⟩
        case round =>
          clear HS4 HB4 HO4 hz4
          obtain ⟨k, xs, hk, rfl, HF, HA, HS, HB, hz⟩ := hrel
          have hsz := HB.out.size
          by_cases hlt : k < done.length
          · have hsc := spCells_at done k hlt
            have e0 : wr.cell? ⟨gS, k * 2, none⟩ = some (.int .i64 (done[k].1 : Int)) := by rw [HS.out.cellAt (k * 2) (by omega)]; exact hsc.1
            have e1 : wr.cell? ⟨gS, k * 2 + 1, none⟩ = some (.int .i64 (done[k].2 : Int)) := by rw [HS.out.cellAt (k * 2 + 1) (by omega)]; exact hsc.2
            obtain ⟨hx1, hx2⟩ := HSP.out _ (List.getElem_mem hlt)
            have hgl : gS < wr.heap.size := (HS.out.lt gS rfl).2
            have hxl : xs.length = done.length := HF.out.1
            have c2 : ∃ u, wr.cell? ⟨wz.heap.size, k, none⟩ = some u := ⟨xs[k]'(by omega), by rw [HA.out.cellAt k (by omega), List.getElem?_eq_getElem (by omega)]⟩
            obtain ⟨u, c2'⟩ := c2
            have f2' : wr.frozen? ⟨wz.heap.size, k, none⟩ = false := HA.out.frozenAt k
            have hst := HA.out.stored k (.string (s.extract done[k].1 done[k].2))
            have HA2 := Lib.hid (hst.1.alloc (.cells #[.int .i64 (done[k].1 : Int), .int .i64 (done[k].2 : Int)] 92))
            have HF2 := Lib.hid (fill_step HF.out hlt)
            have HS2 := Lib.hid ((HS.out.kept hst.2 (own_apart HS.out HA.out (by decide))).alloc (.cells #[.int .i64 (done[k].1 : Int), .int .i64 (done[k].2 : Int)] 92))
            have hb2 := HB.out.setCell (p := ⟨wz.heap.size, k, none⟩) (HA.out.lt _ rfl).1 (.string (s.extract done[k].1 done[k].2))
            have HB2 := Lib.hid (hb2.alloc hb2.size (.cells #[.int .i64 (done[k].1 : Int), .int .i64 (done[k].2 : Int)] 92))
            clear hxl hsc hst hb2
            go_wp2_with fail
            exact ⟨⟨k + 1, _, by omega, rfl, HF2.out, HA2.out, HS2.out, HB2.out, by simp; omega⟩, by simp [intOf]; omega⟩
          · obtain rfl : k = done.length := by omega
            have hfa := fill_all HF.out
            have HFA := Lib.hid hfa
            clear hfa
            go_wp2_with fail
            go_ret
            refine ⟨wz.heap.size, done.length, ?_, ?_, HB.out⟩
            · rw [HE.out, List.length_map]; rfl
            · rw [HE.out, List.length_map]; have := HA.out; rw [HFA.out] at this; exact this
      | some a =>
        obtain rfl : z = (a : Int) := HZ.out.2.2 a rfl
        have hap : a ≤ s.size := HR.out.2.2.1 a rfl
        have hdn : done.length ≤ s.size := HR.out.2.1
        obtain ⟨he, hsp, hlen⟩ := ff_end_some HR.out
        obtain ⟨sp, hspd⟩ : ∃ sp, done ++ [(a, s.size)] = sp := ⟨_, rfl⟩
        rw [hspd] at he hsp hlen
        have hsc : spCells done ++ [.int .i64 (a : Int), .int .i64 (s.size : Int)] = spCells sp := by rw [← hspd, spCells_snoc]
        have hsl : sp.length = done.length + 1 := by rw [← hspd]; simp
        have HE := Lib.hid (show fieldsP p s = sp.map (cut s) by rw [HGF.out, he])
        have HSP := Lib.hid hsp
        have HSC := Lib.hid hsc; have HSL := Lib.hid hsl
        clear he hsp HGF HR hsc hspd hsl
        have hsz5 := HB.out.size
        go_wp2_with (first
          | (at_builtin; refine wpList_append_own _ rfl _ _ 90 rfl w.heap.size 92 i0 (.agg #[.int .i64 0, .int .i64 0]) 2 16 Tryd.underlying90 hi hz0 hz1 hz2 rfl (by decide) u5 done.length (spCells done) rfl (HO.out.alloc _) ⟨wr.heap.size, 0, none⟩ 1 1 [.int .i64 (a : Int), .int .i64 (s.size : Int)] rfl rfl (cell_two_new' _ _ _ _) (by intro u hu; simp at hu; rcases hu with rfl | rfl <;> rfl) (by unfold maxLen; omega) (by omega) (by simp; omega) ?_; intro v' w3 hown3 hgrow3 hnil3; rw [HSC.out, ← HSL.out] at hown3; obtain ⟨gS, cS, hv⟩ := own_some hown3 (fun h => HV.out (hnil3.1 h).1); subst hv; have HO3 := Lib.hid hown3; have HB3 := Lib.hid ((HB.out.alloc hsz5 _).grown hgrow3 (by simp; omega) (fun q h => (HO.out.lt q h).1)); have hsz3 := HB3.out.size; clear hown3 hgrow3 hnil3)
          | (at_make; refine wpList_make_full _ rfl _ _ 45 rfl w.heap.size 9 j0 (.string ⟨#[]⟩) 1 Tryd.underlying45 hj hy0 hy1 .i64 .i64 _ _ sp.length rfl rfl rfl rfl (by rw [hy2]; omega) (by unfold maxLen; omega) hsz3 ?_; intro w4 hown4 hgrow4))
        obtain ⟨wz, hwz⟩ : ∃ wz : World, wz = w3 := ⟨_, rfl⟩
        rw [← hwz] at hown4 hgrow4 HO3 HB3 ⊢
        have HOwz := HO3.out; have HBwz := HB3.out
        clear hwz HI HO HB HV HZ hnx hfu HO3 HB3 hsz3 hsz5 w3
        have HS4 := Lib.hid (HOwz.kept (row := none) hgrow4 (Classical.em _))
        have HB4 := Lib.hid (HBwz.grown hgrow4 HBwz.size (fun q h => by cases h))
        have hz4 : wz.heap.size < w4.heap.size := (hown4.lt _ rfl).2
        have HO4 := Lib.hid hown4
        clear hown4 hgrow4
        go_loopw [49] (fun vi wx => ∃ (k : Nat) (xs : List Value), k ≤ sp.length ∧ vi = .int .i64 (k : Int) ∧ Hid (FillRel s sp k xs) ∧ Hid (wx.ownsRow w.heap.size 9 1 (.slice (some ⟨wz.heap.size, 0, none⟩) sp.length sp.length) sp.length xs) ∧ Hid (wx.ownsRow w.heap.size 92 2 (.slice (some ⟨gS, 0, none⟩) sp.length cS) sp.length (spCells sp)) ∧ Hid (Below w.heap.size w wx) ∧ wz.heap.size < wx.heap.size) (fun vi _ => sp.length - (intOf vi).toNat)
        case atStart => exact ⟨0, _, Nat.zero_le _, rfl, ⟨by have := HO4.out.1; omega, fun _ _ h => absurd h (by omega)⟩, HO4.out, HS4.out, HB4.out, hz4⟩
        case round =>
          clear HS4 HB4 HO4 hz4
          obtain ⟨k, xs, hk, rfl, HF, HA, HS, HB, hz⟩ := hrel
          have hsz := HB.out.size
          by_cases hlt : k < sp.length
          · have hsc := spCells_at sp k hlt
            have e0 : wr.cell? ⟨gS, k * 2, none⟩ = some (.int .i64 (sp[k].1 : Int)) := by rw [HS.out.cellAt (k * 2) (by omega)]; exact hsc.1
            have e1 : wr.cell? ⟨gS, k * 2 + 1, none⟩ = some (.int .i64 (sp[k].2 : Int)) := by rw [HS.out.cellAt (k * 2 + 1) (by omega)]; exact hsc.2
            obtain ⟨hx1, hx2⟩ := HSP.out _ (List.getElem_mem hlt)
            have hgl : gS < wr.heap.size := (HS.out.lt gS rfl).2
            have hxl : xs.length = sp.length := HF.out.1
            have c2 : ∃ u, wr.cell? ⟨wz.heap.size, k, none⟩ = some u := ⟨xs[k]'(by omega), by rw [HA.out.cellAt k (by omega), List.getElem?_eq_getElem (by omega)]⟩
            obtain ⟨u, c2'⟩ := c2
            have f2' : wr.frozen? ⟨wz.heap.size, k, none⟩ = false := HA.out.frozenAt k
            have hst := HA.out.stored k (.string (s.extract sp[k].1 sp[k].2))
            have HA2 := Lib.hid (hst.1.alloc (.cells #[.int .i64 (sp[k].1 : Int), .int .i64 (sp[k].2 : Int)] 92))
            have HF2 := Lib.hid (fill_step HF.out hlt)
            have HS2 := Lib.hid ((HS.out.kept hst.2 (own_apart HS.out HA.out (by decide))).alloc (.cells #[.int .i64 (sp[k].1 : Int), .int .i64 (sp[k].2 : Int)] 92))
            have hb2 := HB.out.setCell (p := ⟨wz.heap.size, k, none⟩) (HA.out.lt _ rfl).1 (.string (s.extract sp[k].1 sp[k].2))
            have HB2 := Lib.hid (hb2.alloc hb2.size (.cells #[.int .i64 (sp[k].1 : Int), .int .i64 (sp[k].2 : Int)] 92))
            clear hxl hsc hst hb2
            go_wp2_with fail
            exact ⟨⟨k + 1, _, by omega, rfl, HF2.out, HA2.out, HS2.out, HB2.out, by simp; omega⟩, by simp [intOf]; omega⟩
          · obtain rfl : k = sp.length := by omega
            have hfa := fill_all HF.out
            have HFA := Lib.hid hfa
            clear hfa
            go_wp2_with fail
            go_ret
            refine ⟨wz.heap.size, sp.length, ?_, ?_, HB.out⟩
            · rw [HE.out, List.length_map]; rfl
            · rw [HE.out, List.length_map]; have := HA.out; rw [HFA.out] at this; exact this
end Go.Proofs.YtlgibcphfmjddaaDoor
