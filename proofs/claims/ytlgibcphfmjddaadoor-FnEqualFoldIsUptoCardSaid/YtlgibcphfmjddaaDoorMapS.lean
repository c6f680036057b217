/-
  Contracts of the reference's mapped and Map. Conditions: the text is of at most 2^40 bytes; the table's rows lie in memory.
-/
import Derived.Test.YtlgibcphfmjddaaDoorImg
import Derived.Test.YtlgibcphfmjddaaDoorEnc
import Derived.Test.YtlgibcphfmjddaaDoorSpecV
import Derived.Lib.MapLaws
import Derived.Lib.TrimU
namespace Go.Proofs.YtlgibcphfmjddaaDoor
open Go.RowKit
set_option linter.unusedVariables false

/-- a text mapped, by its pieces -/
def mapP (f : Int → Int) (ps : List Pc) : List UInt8 := ps.flatMap fun p => if 0 ≤ f (p.r : Int) then Lib.encodeRune (f (p.r : Int)) else []
theorem mapP_eq (f : Int → Int) : ∀ (l : List UInt8), ∀ pos, Lib.mapD f l = mapP f (pcs pos l) := by
  refine chs_ind ?_ ?_
  · intro pos; rw [pcs_nil, Lib.mapD_nil]; rfl
  · intro l hl ih pos
    rw [pcs_cons pos l hl, Lib.mapD_step f l hl, ih (pos + (Lib.decodeL l).2)]
    rfl
theorem mapP_at {f : Int → Int} {ps : List Pc} {k : Nat} (h : k < ps.length) : mapP f (ps.drop k) = (if 0 ≤ f (ps[k].r : Int) then Lib.encodeRune (f (ps[k].r : Int)) else []) ++ mapP f (ps.drop (k + 1)) := by
  unfold mapP; rw [List.drop_eq_getElem_cons h, List.flatMap_cons]
theorem mapped_len (f : Int → Int) : ∀ l : List UInt8, (Lib.mapD f l).length ≤ 4 * l.length := by
  refine chs_ind ?_ ?_
  · rw [Lib.mapD_nil]; simp
  · intro l hl ih
    have h1 := dL_pos l
    have h2 := dL_le l hl
    rw [Lib.mapD_step f l hl, List.length_append]
    rw [List.length_drop] at ih
    have h3 : (Lib.encodeRune (f (Lib.decodeL l).1)).length ≤ 4 := by
      have := Lib.encodeRuneZ_length (f (Lib.decodeL l).1)
      unfold Lib.encodeRune; rw [List.length_map]; omega
    split <;> simp <;> omega
theorem pcs_r : ∀ (l : List UInt8) (pos : Nat), ∀ x ∈ pcs pos l, x.r ≤ 1114111 := by
  refine chs_ind ?_ ?_
  · intro pos x hx; rw [pcs_nil] at hx; cases hx
  · intro l hl ih pos x hx
    rw [pcs_cons pos l hl] at hx
    rcases List.mem_cons.1 hx with rfl | hx
    · have h := Lib.rune_le ⟨l.toArray⟩ 0
      rw [decode_drop, List.drop_zero] at h
      exact h
    · exact ih _ x hx
/-- the numbers of a table's rows are those of code points' type -/
def Small (rs : List (Int × Int)) : Prop := ∀ r ∈ rs, -2147483648 ≤ r.2 ∧ r.2 ≤ 2147483647
theorem img_small : ∀ (rs : List (Int × Int)) (x : Int), Small rs → -2147483648 ≤ x ∧ x ≤ 2147483647 → -2147483648 ≤ imgB rs x ∧ imgB rs x ≤ 2147483647
  | [], x, _, hx => hx
  | r :: rs, x, h, hx => by
    rw [imgB]
    split
    · exact h r (by simp)
    · exact img_small rs x (fun q hq => h q (by simp [hq])) hx
set_option maxRecDepth 100000 in
set_option maxHeartbeats 4000000 in
theorem spec_mapped (a : Option Addr) (cap : Nat) (rs : List (Int × Int)) (s : ByteArray) (w : World) (hs : s.size ≤ 1099511627776) (hl : Lies w w.heap.size 2 a rs.length (rcells rs)) (hlen : rs.length ≤ 35184372088832) (hsm : Small rs) :
    Calls Tryd.prog 32 #[.string s, .agg #[.slice a rs.length cap]] w fun e w' => e = .returned (.string ⟨(Lib.mapD (imgB rs) s.data.toList).toArray⟩) ∧ Below w.heap.size w w' := by
  obtain ⟨i0, hi, hz0, hz1, hz2⟩ := info_parts Tryd.info8v
  have HL := Lib.hid hl; have HSM := Lib.hid hsm
  have hal := mapped_len (imgB rs) s.data.toList
  rw [len_data] at hal
  have hmp := mapP_eq (imgB rs) s.data.toList 0
  obtain ⟨ANS, hANS⟩ : ∃ ANS, Lib.mapD (imgB rs) s.data.toList = ANS := ⟨_, rfl⟩
  rw [hANS] at hal hmp ⊢
  have HAL := Lib.hid (show ANS.length ≤ 4398046511104 by omega)
  have HB0 := Lib.hid (show Below w.heap.size w ((w.alloc (.cells #[.slice a rs.length cap] 29)).alloc (.cells #[] 5)) from ((Below.refl _ w).alloc (Nat.le_refl _) _).alloc (by simp) _)
  clear hl hsm hal hANS
  go_enter Tryd.func32, Tryd.ntmps32
  go_wp2_with fail
  refine (spec_piecesOwn s hs _).mono ?_; rintro e w1 ⟨pa, pc, rfl, hpl, hb1⟩
  have hpn := pcs_len s.data.toList.length 0 s.data.toList (Nat.le_refl _)
  rw [len_data] at hpn
  have hrb := fun x (hx : x ∈ pcs 0 s.data.toList) => pcs_r s.data.toList 0 x hx
  generalize hps : pcs 0 s.data.toList = ps at *
  have HM0 := Lib.hid (show ANS = [] ++ mapP (imgB rs) (ps.drop 0) from hmp)
  have HP1 := Lib.hid (own_base hpl (show w.heap.size ≤ _ by simp; omega))
  have hbx : Box w1 w.heap.size 29 #[.slice a rs.length cap] := (((Box.new w _ _).alloc _).below hb1 (by simp; omega))
  have hown : w1.ownsRow w.heap.size 5 1 (.slice (some ⟨w.heap.size + 1, 0, none⟩) 0 0) 0 [] := by
    have h0 := World.ownsRow_lit (base := w.heap.size) (e := 5) (size := 1) (w.alloc (.cells #[.slice a rs.length cap] 29)) #[] 0 (by simp) (Nat.zero_le _) rfl
    have h1 := own_later h0 hb1
    simpa using h1
  have B1 := Lib.hid (HB0.out.trans (hb1.mono (by simp; omega)))
  have HO1 := Lib.hid hown; have HX1 := Lib.hid hbx; have HRB := Lib.hid hrb
  clear hpl hps hown hb1 hbx hmp hrb
  go_wp2_with fail
  go_loopw [5, 7] (fun v vi wr => ∃ (k : Nat) (done : List UInt8), k ≤ ps.length ∧ vi = .int .i64 (k : Int) ∧ Hid (ANS = done ++ mapP (imgB rs) (ps.drop k)) ∧
      Hid (wr.ownsRow w.heap.size 5 1 v done.length (done.map bcell)) ∧ Hid (wr.ownsRow w.heap.size 70 4 (.slice pa ps.length pc) ps.length (pcells ps)) ∧ Hid (Box wr w.heap.size 29 #[.slice a rs.length cap]) ∧ Hid (Below w.heap.size w wr)) (fun _ vi _ => ps.length - (intOf vi).toNat)
  case atStart => exact ⟨0, [], Nat.zero_le _, rfl, HM0.out, HO1.out, HP1.out, HX1.out, B1.out⟩
  case round =>
    clear HO1 B1 HP1 HB0 HM0 HX1
    obtain ⟨k, done, hk, rfl, HR, HO, HP, HX, HB⟩ := hrel
    have hsz := HB.out.size
    by_cases hlt : k < ps.length
    · obtain ⟨g, o, hpa, hg, c0, c1, c2, c3⟩ := pcc (Lies.of_own HP.out) k hlt
      subst hpa
      have hrk := HRB.out _ (List.getElem_mem hlt)
      have HA := Lib.hid (mapP_at (f := imgB rs) hlt)
      have x0 : wr.cell? ⟨w.heap.size, 0, none⟩ = some (.slice a rs.length cap) := HX.out.cell 0
      have HLr := Lib.hid (HL.out.later HB.out)
      clear c0 c1 c3
      generalize hpk : ps[k].r = q at *
      have hF0 := img_small rs (q : Int) HSM.out (by omega)
      obtain ⟨F, hF⟩ : ∃ F, imgB rs (q : Int) = F := ⟨_, rfl⟩
      rw [hF] at HA hF0
      have HF := Lib.hid hF
      obtain ⟨hF1, hF2⟩ := hF0
      clear hF hpk
      have HOd := Lib.hid (show wr.drew.ownsRow w.heap.size 5 1 u5 done.length (done.map bcell) from HO.out)
      have HPd := Lib.hid (show wr.drew.ownsRow w.heap.size 70 4 (.slice (some ⟨g, o, none⟩) ps.length pc) ps.length (pcells ps) from HP.out)
      by_cases hneg : F < 0
      · have HN := Lib.hid (show ANS = done ++ mapP (imgB rs) (ps.drop (k + 1)) by rw [HR.out, HA.out, if_neg (by omega), List.nil_append])
        go_wp2_with fail
        go_still_tail 6, (by kernel_rfl)
        change wpList _ _ _ _ _ wr.drew
        go_wp2_with fail
        refine (spec_image a cap rs _ wr.drew HLr.out hlen).mono ?_; rintro e w2 ⟨rfl, hb2⟩; rw [HF.out]
        have HO2 := Lib.hid (own_later (w := wr.drew) HO.out hb2); have HP2 := Lib.hid (own_later (w := wr.drew) HP.out hb2); have HX2 := Lib.hid (Box.later (w := wr.drew) HX.out hb2)
        have HB2 := Lib.hid (HB.out.drew.trans (hb2.mono HB.out.size))
        clear hb2
        go_wp2_with fail
        go_roundw
        case rel => exact ⟨k + 1, done, by omega, by go_num, HN.out, HO2.out, HP2.out, HX2.out, HB2.out⟩
        case measure => simp [intOf]; omega
      · have HN := Lib.hid (show ANS = (done ++ Lib.encodeRune F) ++ mapP (imgB rs) (ps.drop (k + 1)) by rw [HR.out, HA.out, if_pos (by omega), List.append_assoc])
        obtain ⟨E, hE⟩ : ∃ E : ByteArray, E = ⟨(Lib.encodeRune F).toArray⟩ := ⟨_, rfl⟩
        have hEd : E.data.toList = Lib.encodeRune F := by rw [hE]
        have hle : done.length + E.size ≤ 4398046511104 := by
          have h1 := HAL.out
          rw [HN.out, List.length_append, List.length_append, ← hEd, len_data] at h1; omega
        have HEd := Lib.hid hEd
        have CE := Lib.hid (fun W => spec_encode F hF1 hF2 W)
        rw [← hE] at CE
        clear hE hEd
        go_wp2_with fail
        go_still_tail 6, (by kernel_rfl)
        change wpList _ _ _ _ _ wr.drew
        go_wp2_with fail
        refine (spec_image a cap rs _ wr.drew HLr.out hlen).mono ?_; rintro e w2 ⟨rfl, hb2⟩; rw [HF.out]
        have HO2 := Lib.hid (own_later (w := wr.drew) HO.out hb2); have HP2 := Lib.hid (own_later (w := wr.drew) HP.out hb2); have HX2 := Lib.hid (Box.later (w := wr.drew) HX.out hb2)
        have HB2 := Lib.hid (HB.out.drew.trans (hb2.mono HB.out.size))
        clear hb2
        go_wp2_with fail
        refine (CE.out _).mono ?_; rintro e w4 ⟨rfl, hb4⟩
        have HO4 := Lib.hid (own_later HO2.out hb4); have HP4 := Lib.hid (own_later HP2.out hb4); have HX4 := Lib.hid (HX2.out.later hb4)
        have HB4 := Lib.hid (HB2.out.trans (hb4.mono HB2.out.size))
        have hs4 := HB4.out.size
        clear hb4
        go_wp2_with (at_builtin; refine Lib.wpList_append_own_string _ rfl _ _ 64 9 rfl w.heap.size 5 i0 Tryd.underlying64 Tryd.underlying9 hi hz0 hz1 hz2 u5 done.length (done.map bcell) rfl HO4.out E rfl (by unfold maxLen; omega) (by omega) hs4 ?_; intro v' w3 hown3 hgrow3 hnil3)
        have HO3 := Lib.hid (show w3.ownsRow w.heap.size 5 1 v' (done ++ Lib.encodeRune F).length ((done ++ Lib.encodeRune F).map bcell) by rw [← HEd.out, ← bytes_more, List.length_append, len_data]; exact hown3)
        have HB3 := Lib.hid (HB4.out.grown hgrow3 hs4 (fun q e => (HO4.out.lt q e).1))
        have HP3 := Lib.hid (HP4.out.kept hgrow3 (own_apart HP4.out HO4.out (by decide)))
        have HX3 := Lib.hid (HX4.out.grown hgrow3 (HX4.out.apart HO4.out (by decide)))
        clear hown3 hgrow3 hnil3
        go_wp2_with fail
        exact ⟨⟨k + 1, _, by omega, by go_num, HN.out, HO3.out, HP3.out, HX3.out, HB3.out⟩, by simp [intOf]; omega⟩
    · obtain rfl : k = ps.length := by omega
      have HE := Lib.hid (show ANS = done by have := HR.out; rw [List.drop_length] at this; simpa [mapP] using this)
      have kc := conv_own (P := Tryd.prog) wr 64 9 5 Tryd.underlying64 Tryd.underlying5 Tryd.underlying9 HO.out
      go_wp2
      go_ret
      exact ⟨ret_str (by rw [HE.out]), HB.out⟩
set_option maxHeartbeats 1000000 in
theorem spec_Map (a : Option Addr) (cap : Nat) (rs : List (Int × Int)) (s : ByteArray) (w : World) (hs : s.size ≤ 1099511627776) (hl : Lies w w.heap.size 2 a rs.length (rcells rs)) (hlen : rs.length ≤ 35184372088832) (hsm : Small rs) :
    Calls Tryd.prog 15 #[.string s, .agg #[.slice a rs.length cap]] w fun e w' => e = .returned (.string ⟨(Lib.mapD (imgB rs) s.data.toList).toArray⟩) ∧ Below w.heap.size w w' := by
  have hw : Below w.heap.size w (w.alloc (.cells #[.slice a rs.length cap] 29)) := (Below.refl _ w).alloc (Nat.le_refl _) _
  have HL := Lib.hid (hl.later hw); have HW := Lib.hid hw; have HSM := Lib.hid hsm
  clear hl hw hsm
  go_enter Tryd.func15, Tryd.ntmps15
  go_wp2_with (go_at_call 32; refine (spec_mapped _ _ rs s _ hs HL.out hlen HSM.out).mono ?_; rintro e w' ⟨rfl, hb⟩)
  go_ret
  exact ⟨rfl, HW.out.trans (hb.mono HW.out.size)⟩
end Go.Proofs.YtlgibcphfmjddaaDoor
