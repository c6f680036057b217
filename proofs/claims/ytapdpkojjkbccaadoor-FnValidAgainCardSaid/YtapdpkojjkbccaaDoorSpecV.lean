/-
  Contracts of the reference's whole, Whole, mended and ToValidUTF8. Conditions: the text, and what comes out, is of at most 2^40 bytes.
-/
import Derived.Test.YtapdpkojjkbccaaDoorPieces
import Derived.Test.YtapdpkojjkbccaaDoorMend
import Derived.Test.YtapdpkojjkbccaaDoorTexts
import Derived.Lib.AppendStr
import Derived.StillTailTactics
namespace Go.Proofs.YtapdpkojjkbccaaDoor
open Go.RowKit
set_option linter.unusedVariables false

theorem Tryd.info8v : (Tryd.prog.info? 5).map (fun i => (i.zero, i.size, i.bytes)) = some (some (.int .u8 0), 1, 1) := by kernel_rfl
theorem bytes_more (l : List UInt8) (s : ByteArray) : l.map bcell ++ Lib.strCells s = (l ++ s.data.toList).map bcell := by rw [List.map_append]; rfl
/-- what a slice of pieces holds -/
theorem pcc {w : World} {B : Nat} {a : Option Addr} {ps : List Pc} (h : Lies w B 4 a ps.length (pcells ps)) (k : Nat) (hk : k < ps.length) :
    ∃ g o, a = some ⟨g, o, none⟩ ∧ g < B ∧ w.cell? ⟨g, o + k * 4, none⟩ = some (.int .i64 (ps[k].at_ : Int)) ∧ w.cell? ⟨g, o + k * 4 + 1, none⟩ = some (.int .i64 (ps[k].size : Int)) ∧
      w.cell? ⟨g, o + k * 4 + 2, none⟩ = some (.int .i32 (ps[k].r : Int)) ∧ w.cell? ⟨g, o + k * 4 + 3, none⟩ = some (.bool ps[k].ok) := by
  obtain ⟨g, o, e, hg, hc⟩ := h.2 (by omega)
  have hlen := pcells_len ps
  have key : ∀ (l : List Pc) (k : Nat) (hk : k < l.length) (j : Nat) (hj : j < 4), (pcells l)[k * 4 + j]? = (pcell l[k])[j]? := by
    intro l
    induction l with
    | nil => intro k hk; simp at hk
    | cons p l ih =>
      intro k hk j hj
      cases k with
      | zero =>
        simp only [pcells, List.flatMap_cons, List.getElem_cons_zero]
        rw [List.getElem?_append_left (by simp [pcell]; omega)]
        simp
      | succ k =>
        simp only [pcells, List.flatMap_cons, List.getElem_cons_succ]
        rw [List.getElem?_append_right (by simp [pcell]; omega)]
        have := ih k (by simpa using hk) j hj
        rw [← this]
        congr 1
        simp [pcell]; omega
  have get : ∀ j (hj : j < 4) (v : Value), (pcell ps[k])[j]? = some v → w.cell? ⟨g, o + k * 4 + j, none⟩ = some v := by
    intro j hj v hv
    have h1 := hc (k * 4 + j) (by rw [hlen]; omega)
    rw [show o + k * 4 + j = o + (k * 4 + j) by omega, h1]
    have h2 := key ps k hk j hj
    rw [hv] at h2
    rw [List.getElem?_eq_getElem (by rw [hlen]; omega)] at h2
    exact h2
  exact ⟨g, o, e, hg, get 0 (by omega) _ rfl, get 1 (by omega) _ rfl, get 2 (by omega) _ rfl, get 3 (by omega) _ rfl⟩
theorem whole_at {ps : List Pc} {k : Nat} (h : k < ps.length) : wholeP (ps.drop k) = (ps[k].ok && wholeP (ps.drop (k + 1))) := by
  unfold wholeP; rw [List.drop_eq_getElem_cons h, List.all_cons]
set_option maxRecDepth 100000 in
set_option maxHeartbeats 2000000 in
theorem spec_whole (s : ByteArray) (w : World) (hs : s.size ≤ 1099511627776) :
    Calls Tryd.prog 9 #[.string s] w fun e w' => e = .returned (.bool ((chs s.data.toList).all okC)) ∧ Below w.heap.size w w' := by
  rw [← whole_chs]
  go_enter Tryd.func9, Tryd.ntmps9
  go_wp2_with fail
  refine (spec_pieces s hs _).mono ?_; rintro e w1 ⟨pa, pc, rfl, hpl, hb1⟩
  have HP := Lib.hid hpl
  have HB1 := Lib.hid hb1
  have hpn := pcs_len s.data.toList.length 0 s.data.toList (Nat.le_refl _)
  rw [len_data] at hpn
  generalize hps : pcs 0 s.data.toList = ps at *
  have HPS := Lib.hid hps
  clear hpl hps hb1
  go_wp2_with fail
  go_loopw [4] (fun vi wr => ∃ k : Nat, k ≤ ps.length ∧ vi = .int .i64 (k : Int) ∧ Hid (wholeP (ps.drop k) = wholeP ps) ∧ wr = w1) (fun vi _ => ps.length - (intOf vi).toNat)
  case atStart => exact ⟨0, Nat.zero_le _, rfl, rfl, rfl⟩
  case round =>
    obtain ⟨k, hk, rfl, HF, rfl⟩ := hrel
    by_cases hlt : k < ps.length
    · obtain ⟨g, o, rfl, hg, c0, c1, c2, c3⟩ := pcc HP.out k hlt
      have HA := Lib.hid (whole_at hlt)
      clear c0 c1 c2
      generalize hok : ps[k].ok = ok at *
      cases ok
      · go_wp2
        go_ret
        exact ⟨ret_bool (by rw [HPS.out, ← HF.out, HA.out]; rfl), HB1.out⟩
      · go_wp2
        go_roundw
        case rel => exact ⟨k + 1, by omega, by go_num, (by rw [← HF.out, HA.out]; rfl), trivial⟩
        case measure => simp [intOf]; omega
    · have HF2 := Lib.hid (show true = wholeP ps by rw [← HF.out, List.drop_of_length_le (by omega)]; rfl)
      go_wp2_with fail
      go_ret
      exact ⟨ret_bool (by rw [HPS.out]; exact HF2.out), HB1.out⟩
set_option maxHeartbeats 1000000 in
theorem spec_Whole (s : ByteArray) (w : World) (hs : s.size ≤ 1099511627776) :
    Calls Tryd.prog 6 #[.string s] w fun e w' => e = .returned (.bool ((chs s.data.toList).all okC)) ∧ Below w.heap.size w w' := by
  go_enter Tryd.func6, Tryd.ntmps6
  go_wp2_with (go_at_call 9; refine (spec_whole s _ hs).mono ?_; rintro e w' ⟨rfl, hb⟩)
  go_ret
  exact ⟨rfl, hb⟩
/-- what the loop over the pieces knows -/
def MpRel (s y : ByteArray) (ps : List Pc) (k : Nat) (i : Bool) (done : List UInt8) : Prop :=
  mend s y = done ++ mendP s y.data.toList i (ps.drop k) ∧ (i = true → ∃ j, k = j + 1 ∧ ∃ h : j < ps.length, ps[j].ok = false) ∧ (i = false → k = 0 ∨ ∃ j, k = j + 1 ∧ ∃ h : j < ps.length, ps[j].ok = true)
theorem MpRel.le {s y : ByteArray} {ps : List Pc} {k : Nat} {i : Bool} {d : List UInt8} (h : MpRel s y ps k i d) : d.length ≤ s.size + s.size * y.size := by
  have h1 := mend_le s y
  rw [h.1, List.length_append] at h1
  omega
theorem mp_ok {s y : ByteArray} {ps : List Pc} {k : Nat} {i : Bool} {d : List UInt8} (h : MpRel s y ps k i d) (hk : k < ps.length) (ho : ps[k].ok = true) : MpRel s y ps (k + 1) false (d ++ (s.extract ps[k].at_ (ps[k].at_ + ps[k].size)).data.toList) := by
  obtain ⟨h1, _, _⟩ := h
  rw [List.drop_eq_getElem_cons hk, mendP, if_pos ho] at h1
  exact ⟨by rw [h1, List.append_assoc], (fun h => by cases h), fun _ => .inr ⟨k, rfl, hk, ho⟩⟩
theorem mp_bad {s y : ByteArray} {ps : List Pc} {k : Nat} {d : List UInt8} (h : MpRel s y ps k false d) (hk : k < ps.length) (ho : ps[k].ok = false) : MpRel s y ps (k + 1) true (d ++ y.data.toList) := by
  obtain ⟨h1, _, _⟩ := h
  rw [List.drop_eq_getElem_cons hk, mendP, if_neg (by rw [ho]; decide)] at h1
  exact ⟨by rw [h1, List.append_assoc]; rfl, (fun _ => ⟨k, rfl, hk, ho⟩), fun h => by cases h⟩
theorem mp_bad2 {s y : ByteArray} {ps : List Pc} {k : Nat} {d : List UInt8} (h : MpRel s y ps k true d) (hk : k < ps.length) (ho : ps[k].ok = false) : MpRel s y ps (k + 1) true d := by
  obtain ⟨h1, _, _⟩ := h
  rw [List.drop_eq_getElem_cons hk, mendP, if_neg (by rw [ho]; decide)] at h1
  exact ⟨by rw [h1]; rfl, (fun _ => ⟨k, rfl, hk, ho⟩), fun h => by cases h⟩
set_option maxRecDepth 100000 in
set_option maxHeartbeats 4000000 in
theorem spec_mended (s y : ByteArray) (w : World) (hs : s.size ≤ 1099511627776) (hm : s.size + s.size * y.size ≤ 1099511627776) (hy : y.size ≤ 1099511627776) :
    Calls Tryd.prog 10 #[.string s, .string y] w fun e w' => e = .returned (.string ⟨(mend s y).toArray⟩) ∧ Below w.heap.size w w' := by
  obtain ⟨i0, hi, hz0, hz1, hz2⟩ := info_parts Tryd.info8v
  have HB0 := Lib.hid (show Below w.heap.size w (w.alloc (.cells #[] 5)) from (Below.refl _ w).alloc (Nat.le_refl _) _)
  go_enter Tryd.func10, Tryd.ntmps10
  go_wp2_with fail
  refine (spec_piecesOwn s hs _).mono ?_; rintro e w1 ⟨pa, pc, rfl, hpl, hb1⟩
  have hpn := pcs_len s.data.toList.length 0 s.data.toList (Nat.le_refl _)
  have hpi := pcs_in s.data.toList.length 0 s.data.toList (Nat.le_refl _)
  rw [len_data] at hpn hpi
  have HM0 := Lib.hid (show MpRel s y (pcs 0 s.data.toList) 0 false [] from ⟨mend_pcs s y, (fun h => by cases h), fun _ => .inl rfl⟩)
  generalize hps : pcs 0 s.data.toList = ps at *
  have HP1 := Lib.hid (own_base hpl (show w.heap.size ≤ _ by simp))
  have HPI := Lib.hid hpi
  have hown : w1.ownsRow w.heap.size 5 1 (.slice (some ⟨w.heap.size, 0, none⟩) 0 0) 0 [] := by
    have h0 := World.ownsRow_lit (base := w.heap.size) (e := 5) (size := 1) w #[] 0 (Nat.le_refl _) (Nat.zero_le _) rfl
    have h1 := own_later h0 hb1
    simpa using h1
  have B1 := Lib.hid (HB0.out.trans (hb1.mono (by simp)))
  have HO1 := Lib.hid hown
  clear hpl hpi hps hown hb1
  have hmul : s.size + s.size * y.size ≤ 1099511627776 := hm
  generalize hM : s.size + s.size * y.size = M at *
  have HMM := Lib.hid hM
  clear hM hmul
  go_wp2_with fail
  go_loopw [5, 7] (fun v vi wr => ∃ (k : Nat) (i : Bool) (done : List UInt8), k ≤ ps.length ∧ vi = .int .i64 (k : Int) ∧ Hid (MpRel s y ps k i done) ∧
      Hid (wr.ownsRow w.heap.size 5 1 v done.length (done.map bcell)) ∧ Hid (wr.ownsRow w.heap.size 42 4 (.slice pa ps.length pc) ps.length (pcells ps)) ∧ Hid (Below w.heap.size w wr)) (fun _ vi _ => ps.length - (intOf vi).toNat)
  case atStart => exact ⟨0, false, [], Nat.zero_le _, rfl, HM0.out, HO1.out, HP1.out, B1.out⟩
  case round =>
    clear HO1 B1 HP1 HB0 HM0
    obtain ⟨k, i, done, hk, rfl, HR, HO, HP, HB⟩ := hrel
    have hsz := HB.out.size
    by_cases hlt : k < ps.length
    · obtain ⟨g, o, hpa, hg, c0, c1, c2, c3⟩ := pcc (Lies.of_own HP.out) k hlt
      subst hpa
      have hin := (HPI.out _ (List.getElem_mem hlt)).2.2
      rw [Nat.zero_add] at hin
      clear c2
      generalize hpk : ps[k] = p at *
      cases hok : p.ok
      · rw [hok] at c3
        cases i
        · have HN := Lib.hid (mp_bad HR.out hlt (by rw [hpk]; exact hok))
          have hle : done.length + y.size ≤ 1099511627776 := by have := HN.out.le; rw [List.length_append, len_data] at this; have := HMM.out; omega
          have hpr := HR.out.2.2 rfl
          have HPK := Lib.hid hpk
          clear c0 c1 hok hpk
          rcases hpr with rfl | ⟨j, rfl, hj, hjo⟩
          · go_wp2_with (at_builtin; refine Lib.wpList_append_own_string _ rfl _ _ 26 9 rfl w.heap.size 5 i0 Tryd.underlying26 Tryd.underlying9 hi hz0 hz1 hz2 u5 done.length (done.map bcell) rfl HO.out y rfl (by unfold maxLen; omega) (by omega) hsz ?_; intro v' w3 hown3 hgrow3 hnil3)
            have HO3 := Lib.hid (show w3.ownsRow w.heap.size 5 1 v' (done ++ y.data.toList).length ((done ++ y.data.toList).map bcell) by rw [← bytes_more, List.length_append, len_data]; exact hown3)
            have HB3 := Lib.hid (HB.out.grown hgrow3 hsz (fun q e => (HO.out.lt q e).1))
            have HP3 := Lib.hid (HP.out.kept hgrow3 (own_apart HP.out HO.out (by decide)))
            clear hown3 hgrow3 hnil3
            go_wp2_with fail
            exact ⟨⟨0 + 1, true, _, by omega, by go_num, HN.out, HO3.out, HP3.out, HB3.out⟩, by simp [intOf]; omega⟩
          · obtain ⟨g', o', hpa', hg', _, _, _, d3⟩ := pcc (Lies.of_own HP.out) j hj
            obtain ⟨rfl, rfl⟩ : g = g' ∧ o = o' := by injection hpa' with h; injection h with h1 h2; exact ⟨h1, h2⟩
            rw [hjo] at d3
            clear hpa' hg' hjo
            have hje : (((j + 1 : Nat) : Int) == 0) = false := by simp; omega
            go_wp2_with (at_builtin; refine Lib.wpList_append_own_string _ rfl _ _ 26 9 rfl w.heap.size 5 i0 Tryd.underlying26 Tryd.underlying9 hi hz0 hz1 hz2 u5 done.length (done.map bcell) rfl HO.out y rfl (by unfold maxLen; omega) (by omega) hsz ?_; intro v' w3 hown3 hgrow3 hnil3)
            have HO3 := Lib.hid (show w3.ownsRow w.heap.size 5 1 v' (done ++ y.data.toList).length ((done ++ y.data.toList).map bcell) by rw [← bytes_more, List.length_append, len_data]; exact hown3)
            have HB3 := Lib.hid (HB.out.grown hgrow3 hsz (fun q e => (HO.out.lt q e).1))
            have HP3 := Lib.hid (HP.out.kept hgrow3 (own_apart HP.out HO.out (by decide)))
            clear hown3 hgrow3 hnil3
            go_wp2_with fail
            exact ⟨⟨j + 1 + 1, true, _, by omega, by go_num, HN.out, HO3.out, HP3.out, HB3.out⟩, by simp [intOf]; omega⟩
        · have HN := Lib.hid (mp_bad2 HR.out hlt (by rw [hpk]; exact hok))
          obtain ⟨j, rfl, hj, hjo⟩ := HR.out.2.1 rfl
          have HPK := Lib.hid hpk
          clear c0 c1 hok hpk
          obtain ⟨g', o', hpa', hg', _, _, _, d3⟩ := pcc (Lies.of_own HP.out) j hj
          obtain ⟨rfl, rfl⟩ : g = g' ∧ o = o' := by injection hpa' with h; injection h with h1 h2; exact ⟨h1, h2⟩
          rw [hjo] at d3
          clear hpa' hg' hjo
          have hje : (((j + 1 : Nat) : Int) == 0) = false := by simp; omega
          go_wp2_with fail
          exact ⟨⟨j + 1 + 1, true, _, by omega, by go_num, HN.out, HO.out, HP.out, HB.out⟩, by simp [intOf]; omega⟩
      · rw [hok] at c3
        have HN := Lib.hid (mp_ok HR.out hlt (by rw [hpk]; exact hok))
        rw [hpk] at HN
        obtain ⟨a0, n0, r0, ok0⟩ := p
        simp only at *
        subst hok
        obtain ⟨F, hF⟩ : ∃ F, F = s.extract a0 (a0 + n0) := ⟨_, rfl⟩
        rw [← hF] at HN
        have hle : done.length + F.size ≤ 1099511627776 := by have := HN.out.le; rw [List.length_append, len_data] at this; have := HMM.out; omega
        have HPK := Lib.hid hpk
        have HWR := Lib.hid (show IntKind.i64.wrap ((a0 : Int) + (n0 : Int)) = (a0 : Int) + (n0 : Int) by simp only [IntKind.wrap, IntKind.bits, IntKind.signed]; simp; omega)
        have HC1 := Lib.hid (show 0 ≤ (a0 : Int) + (n0 : Int) ∧ (a0 : Int) + (n0 : Int) ≤ (s.size : Int) by omega)
        have HC2 := Lib.hid (show (a0 : Int) ≤ (a0 : Int) + (n0 : Int) by omega)
        have HF := Lib.hid hF
        clear hpk hF
        go_wp2_with fail
        go_still_tail 19, (by kernel_rfl)
        rw [HWR.out]
        refine wpStill_step (fun K hK => ?_)
        go_simp
        rw [if_pos HC1.out, if_pos HC2.out]
        simp only [true_and]
        refine hK _ ?_
        clear hK K
        refine wpStill_nil ?_
        change wpList _ _ _ _ _ wr.drew
        have HOd := Lib.hid (show wr.drew.ownsRow w.heap.size 5 1 u5 done.length (done.map bcell) from HO.out)
        have HPd := Lib.hid (show wr.drew.ownsRow w.heap.size 42 4 (.slice (some ⟨g, o, none⟩) ps.length pc) ps.length (pcells ps) from HP.out)
        have hszd : w.heap.size ≤ wr.drew.heap.size := hsz
        go_wp2_with (at_builtin; refine Lib.wpList_append_own_string _ rfl _ _ 26 9 rfl w.heap.size 5 i0 Tryd.underlying26 Tryd.underlying9 hi hz0 hz1 hz2 u5 done.length (done.map bcell) rfl HOd.out (s.extract a0 (a0 + n0)) rfl (by rw [← HF.out]; unfold maxLen; omega) (by rw [← HF.out]; omega) hszd ?_; intro v' w3 hown3 hgrow3 hnil3)
        have HO3 := Lib.hid (show w3.ownsRow w.heap.size 5 1 v' (done ++ F.data.toList).length ((done ++ F.data.toList).map bcell) by rw [HF.out, ← bytes_more, List.length_append, len_data]; exact hown3)
        have HB3 := Lib.hid (HB.out.drew.grown hgrow3 hszd (fun q e => (HO.out.lt q e).1))
        have HP3 := Lib.hid (HPd.out.kept hgrow3 (own_apart HPd.out HOd.out (by decide)))
        clear hown3 hgrow3 hnil3
        go_wp2_with fail
        exact ⟨⟨k + 1, false, _, by omega, by go_num, HN.out, HO3.out, HP3.out, HB3.out⟩, by simp [intOf]; omega⟩
    · obtain rfl : k = ps.length := by omega
      have he : mend s y = done := by have := HR.out.1; rw [List.drop_length] at this; simpa [mendP] using this
      have HE := Lib.hid he
      have kc := conv_own (P := Tryd.prog) wr 26 9 5 Tryd.underlying26 Tryd.underlying5 Tryd.underlying9 HO.out
      clear he
      go_wp2
      go_ret
      exact ⟨ret_str (by rw [HE.out]), HB.out⟩
set_option maxHeartbeats 1000000 in
theorem spec_ToValidUTF8 (s y : ByteArray) (w : World) (hs : s.size ≤ 1099511627776) (hm : s.size + s.size * y.size ≤ 1099511627776) (hy : y.size ≤ 1099511627776) :
    Calls Tryd.prog 7 #[.string s, .string y] w fun e w' => e = .returned (.string ⟨(mend s y).toArray⟩) ∧ Below w.heap.size w w' := by
  have HJ := Lib.hid (spec_mended s y w hs hm hy)
  clear hm
  go_enter Tryd.func7, Tryd.ntmps7
  go_wp2_with fail
  refine HJ.out.mono ?_; rintro e w1 ⟨rfl, hb1⟩
  go_wp2_with fail
  go_ret
  exact ⟨rfl, hb1⟩
end Go.Proofs.YtapdpkojjkbccaaDoor
