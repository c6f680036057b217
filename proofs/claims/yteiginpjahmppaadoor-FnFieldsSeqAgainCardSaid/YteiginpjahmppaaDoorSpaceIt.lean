/-
  The library's FieldsSeq: what its iterator tells, of white space. Conditions: the tables of the library are as their initialisers lay them; the text's length is at most 2^40.
-/
import Derived.Test.YteiginpjahmppaaDoorGath
import Derived.Test.YteiginpjahmppaaDoorShelf
import Derived.Test.YteiginpjahmppaaDoorTabs
import Derived.Test.YteiginpjahmppaaDoorFf
import Derived.Test.YteiginpjahmppaaDoorPieces
import Derived.Lib.TrimAscii
import Derived.Test.YteiginpjahmppaaDoorNewS
namespace Go.Proofs.YteiginpjahmppaaDoor
open Go.RowKit Go.Shelf
set_option linter.unusedVariables false
attribute [local go_sem] Oper.semAt_some

/-- how the iterator keeps where a part has begun -/
def stS (st : Option Nat) : Int := match st with | none => -1 | some a => a
theorem Spaces.at {w : World} (h : Spaces w) (c : Nat) (hc : c < 256) : w.cell? ⟨0, c, none⟩ = some (.int .u8 (if Lib.isSp (UInt8.ofNat c) then 1 else 0)) := by
  have h1 := h.1
  unfold Lib.TabIs at h1
  have h2 := World.var?_cell (show Tryd.prog.globalNamed "strings.asciiSpace" = some 0 by kernel_rfl) h1 c
  rw [h2]
  have h3 : (Lib.asciiSpaceTab.map fun z => Value.int .u8 z).toArray[c]? = some (.int .u8 (Lib.asciiSpaceTab.getD c 0)) := by
    rw [List.getElem?_toArray, List.getElem?_map, List.getElem?_eq_getElem (by rw [Lib.asciiSpaceTab_length]; exact hc)]
    simp [List.getD, Lib.asciiSpaceTab_length, hc]
  rw [h3, Lib.asciiSpaceTab_at c hc]
theorem dec_ascii (s : ByteArray) (k : Nat) (hk : k < s.size) (h : s[k].toNat < 128) : Utf8.decode s k = (s[k].toNat, 1) := by
  rw [Lib.decode_at, gb s k hk]; unfold Lib.decodeN; rw [if_pos h]
set_option maxRecDepth 100000 in
set_option maxHeartbeats 8000000 in
theorem space_feeds (X : Nat) (s : ByteArray) (w : World) (hs : s.size ≤ 1099511627776) (hx : Boxed w X 9 (.string s)) (hT : Tabs w) (hS : Spaces w) :
    Feeds 61 #[.pointer (some ⟨X, 0, none⟩)] (fieldsP Lib.isSpaceR s) (fun _ => False) w := by
  intro n l J W hb hJ hY h0
  have hltX := hx.lt
  have HXY := Lib.hid (show ∀ W, Below w.heap.size w W → Boxed W X 9 (.string s) from fun W h => (h.block X hltX).trans hx)
  have HGF := Lib.hid (show fieldsP Lib.isSpaceR s = (spans Lib.isSpaceR s.size none (pcs 0 s.data.toList)).map (cut s) from rfl)
  refine callsIn_of_wp Tryd.func61 rfl trivial ?_
  simp only [Tryd.ntmps61, List.size_toArray, List.length_cons, List.length_nil, Nat.reduceAdd, Nat.reduceSub, Array.replicate_succ, Array.replicate_zero, List.push_toArray, List.append_toArray, List.nil_append, List.cons_append]
  have HY := Lib.hid hY; have HJ := Lib.hid hJ; have HB0 := Lib.hid hb; have HT := Lib.hid hT; have HSp := Lib.hid hS
  clear hY hJ hb hT hS hx
  gi_wp2
  gi_loopw [3, 4] (fun vs vi wr => ∃ (pos : Nat) (st : Option Nat) (done : List (Nat × Nat)), pos ≤ s.size ∧ vi = .int .i64 (pos : Int) ∧ vs = .int .i64 (stS st) ∧ Hid (FfRel Lib.isSpaceR s pos st done) ∧ Hid (J (done.map (cut s)) wr) ∧ Hid (Below w.heap.size w wr)) (fun _ vi _ => s.size - (intOf vi).toNat)
  case atStart => exact ⟨0, none, [], Nat.zero_le _, rfl, rfl, ff_start Lib.isSpaceR s, h0, HB0.out⟩
  case round =>
    clear h0 HB0
    obtain ⟨pos, st, done, hps, rfl, rfl, HR, HJs, HB⟩ := hrel
    have bx := HXY.out wr HB.out
    have hcx := bx.cell
    by_cases hlt : pos < s.size
    · have hdl := dec_fit s pos hlt
      have hR1 := fun h => ff_out_hit (p := Lib.isSpaceR) (done := done) (s := s) (pos := pos) h hlt
      have hR2 := fun h => ff_out_miss (p := Lib.isSpaceR) (done := done) (s := s) (pos := pos) h hlt
      have hR3 := fun a h => ff_in_hit (p := Lib.isSpaceR) (done := done) (s := s) (pos := pos) (a := a) h hlt
      have hR4 := fun a h => ff_in_miss (p := Lib.isSpaceR) (done := done) (s := s) (pos := pos) (a := a) h hlt
      have hR5 := fun a h => ff_told (p := Lib.isSpaceR) (done := done) (s := s) (pos := pos) (a := a) h hlt
      have hrl := Lib.rune_le s pos
      have hb8 := UInt8.toNat_lt s[pos]
      have htab := (HSp.out.below HB.out).at s[pos].toNat hb8
      rw [UInt8.ofNat_toNat] at htab
      by_cases hasc : s[pos].toNat < 128
      · rw [dec_ascii s pos hlt hasc] at hR1 hR2 hR3 hR4 hR5
        dsimp only at hR1 hR2 hR3 hR4 hR5
        have H1 := Lib.hid hR1; have H2 := Lib.hid hR2; have H3 := Lib.hid hR3; have H4 := Lib.hid hR4; have H5 := Lib.hid hR5
        have hd1 : decide (128 ≤ (s[pos].toNat : Int)) = false := by simp; omega
        have HJ2 := HJs; have HB2 := HB
        clear hR1 hR2 hR3 hR4 hR5 hdl hrl
        cases hpr : Lib.isSp s[pos] with
        | false =>
          rw [hpr] at htab
          have HPR := Lib.hid (Lib.isSp_false hpr hasc); clear hpr
          simp only [Bool.false_eq_true, if_false] at htab
          cases st with
          | none =>
            have HN := Lib.hid (H2.out HR.out HPR.out)
            simp only [stS]
            gi_wp2
            exact ⟨⟨pos + 1, some pos, done, by omega, by go_num, rfl, HN.out, HJ2.out, HB2.out⟩, by simp [intOf]; omega⟩
          | some a =>
            have HN := Lib.hid (H4.out a HR.out HPR.out)
            simp only [stS]
            gi_wp2
            exact ⟨⟨pos + 1, some a, done, by omega, by go_num, rfl, HN.out, HJ2.out, HB2.out⟩, by simp [intOf]; omega⟩
        | true =>
          rw [hpr] at htab
          have HPR := Lib.hid (Lib.isSp_true hpr).2; clear hpr
          simp only [if_true] at htab
          cases st with
          | none =>
            have HN := Lib.hid (H1.out HR.out HPR.out)
            simp only [stS]
            gi_wp2
            exact ⟨⟨pos + 1, none, done, by omega, by go_num, rfl, HN.out, HJ2.out, HB2.out⟩, by simp [intOf]; omega⟩
          | some a =>
            have HN := Lib.hid (H3.out a HR.out HPR.out)
            have hap : a ≤ pos := HR.out.2.2.1 a rfl
            obtain ⟨rr, hrr⟩ := H5.out a HR.out HPR.out
            obtain ⟨fn, tmps, assign, body, hy, hRd⟩ := HY.out (done.map (cut s)) (s.extract a pos) wr HJ2.out ⟨rr, hrr.symm⟩
            have HRd := Lib.hid hRd
            clear hRd hrr
            have ha0 : decide (0 ≤ (a : Int)) = true := by simp
            simp only [stS]
            gi_wp2
            refine ⟨(fun h => by cases h), HRd.out.mono ?_⟩
            rintro e W3 ⟨rfl, hJ3, hb3⟩
            have HJ3 := Lib.hid (show J ((done ++ [(a, pos)]).map (cut s)) W3 by rw [List.map_append]; exact hJ3)
            have HB3 := Lib.hid (HB2.out.trans hb3)
            clear hy hJ3 hb3 HRd
            gi_wp2
            exact ⟨⟨pos + 1, none, done ++ [(a, pos)], by omega, by go_num, rfl, HN.out, HJ3.out, HB3.out⟩, by simp [intOf]; omega⟩
      · have hd1 : decide (128 ≤ (s[pos].toNat : Int)) = true := by simp; omega
        have CD := Tryd.utf8_DecodeRuneInString (s.extract pos s.size) wr (HT.out.below HB.out)
        change Calls Tryd.prog _ _ _ (fun e w' => e = .returned (.tuple #[.int .i32 (Lib.decodeGoB (s.extract pos s.size)).1, .int .i64 (Lib.decodeGoB (s.extract pos s.size)).2]) ∧ _) at CD
        rw [decodeGo_at s pos hlt] at CD
        obtain ⟨R, hR⟩ : ∃ R, (Utf8.decode s pos).1 = R := ⟨_, rfl⟩
        obtain ⟨K, hK⟩ : ∃ K, (Utf8.decode s pos).2 = K := ⟨_, rfl⟩
        rw [hR] at hrl
        rw [hK] at hdl
        rw [hR, hK] at CD
        simp only [hR, hK] at hR1 hR2 hR3 hR4 hR5
        have H1 := Lib.hid hR1; have H2 := Lib.hid hR2; have H3 := Lib.hid hR3; have H4 := Lib.hid hR4; have H5 := Lib.hid hR5
        have HCD := Lib.hid CD
        obtain ⟨hdl1, hdl2⟩ := hdl
        clear hR1 hR2 hR3 hR4 hR5 hR hK CD bx
        obtain ⟨T, hTT⟩ : ∃ T : Int, (if Lib.isSp s[pos] then (1 : Int) else 0) = T := ⟨_, rfl⟩
        rw [hTT] at htab
        clear hTT
        gi_wp2
        refine ⟨trivial, (fun h => by cases h), ?_⟩
        refine (callsIn_wide.2 HCD.out).mono ?_; rintro e W1 ⟨rfl, hb1⟩
        have HB1 := Lib.hid (HB.out.trans (hb1.mono HB.out.size))
        have HJ1 := Lib.hid (HJ.out.below HJs.out hb1)
        clear hcx hb1 HB HJs htab
        gi_wp2
        refine ⟨trivial, (fun h => by cases h), ?_⟩
        refine (callsIn_wide.2 (Tryd.unicode_IsSpace_any (R : Int) W1 (by omega) (by omega) (HSp.out.below HB1.out).2)).mono ?_; rintro e W2 ⟨rfl, hb2⟩
        rw [Lib.isSpaceZ_nat]
        have HB2 := Lib.hid (HB1.out.trans (hb2.mono HB1.out.size))
        have HJ2 := Lib.hid (HJ.out.below HJ1.out hb2)
        have bx := HXY.out W2 HB2.out
        have hcx := bx.cell
        clear hb2 HB1 HJ1 bx
        cases hpr : Lib.isSpaceR R with
        | false =>
          have HPR := Lib.hid hpr; clear hpr
          cases st with
          | none =>
            have HN := Lib.hid (H2.out HR.out HPR.out)
            simp only [stS]
            gi_wp2
            exact ⟨⟨pos + K, some pos, done, by omega, by go_num, rfl, HN.out, HJ2.out, HB2.out⟩, by simp [intOf]; omega⟩
          | some a =>
            have HN := Lib.hid (H4.out a HR.out HPR.out)
            simp only [stS]
            gi_wp2
            exact ⟨⟨pos + K, some a, done, by omega, by go_num, rfl, HN.out, HJ2.out, HB2.out⟩, by simp [intOf]; omega⟩
        | true =>
          have HPR := Lib.hid hpr; clear hpr
          cases st with
          | none =>
            have HN := Lib.hid (H1.out HR.out HPR.out)
            simp only [stS]
            gi_wp2
            exact ⟨⟨pos + K, none, done, by omega, by go_num, rfl, HN.out, HJ2.out, HB2.out⟩, by simp [intOf]; omega⟩
          | some a =>
            have HN := Lib.hid (H3.out a HR.out HPR.out)
            have hap : a ≤ pos := HR.out.2.2.1 a rfl
            obtain ⟨rr, hrr⟩ := H5.out a HR.out HPR.out
            obtain ⟨fn, tmps, assign, body, hy, hRd⟩ := HY.out (done.map (cut s)) (s.extract a pos) W2 HJ2.out ⟨rr, hrr.symm⟩
            have HRd := Lib.hid hRd
            clear hRd hrr
            have ha0 : decide (0 ≤ (a : Int)) = true := by simp
            simp only [stS]
            gi_wp2
            refine ⟨(fun h => by cases h), HRd.out.mono ?_⟩
            rintro e W3 ⟨rfl, hJ3, hb3⟩
            have HJ3 := Lib.hid (show J ((done ++ [(a, pos)]).map (cut s)) W3 by rw [List.map_append]; exact hJ3)
            have HB3 := Lib.hid (HB2.out.trans hb3)
            clear hy hJ3 hb3 HRd
            gi_wp2
            exact ⟨⟨pos + K, none, done ++ [(a, pos)], by omega, by go_num, rfl, HN.out, HJ3.out, HB3.out⟩, by simp [intOf]; omega⟩
    · obtain rfl : pos = s.size := by omega
      cases st with
      | none =>
        obtain ⟨he, _, _⟩ := ff_end_none HR.out
        have HE := Lib.hid (show fieldsP Lib.isSpaceR s = done.map (cut s) by rw [HGF.out, he])
        clear he bx
        simp only [stS]
        gi_wp2
        go_end0
        exact ⟨⟨_, rfl⟩, by rw [HE.out]; exact HJs.out⟩
      | some a =>
        obtain ⟨he, _, _⟩ := ff_end_some HR.out
        have hap : a ≤ s.size := HR.out.2.2.1 a rfl
        have HE := Lib.hid (show fieldsP Lib.isSpaceR s = done.map (cut s) ++ [s.extract a s.size] by rw [HGF.out, he]; simp [cut])
        obtain ⟨fn, tmps, assign, body, hy, hRd⟩ := HY.out (done.map (cut s)) (s.extract a s.size) wr HJs.out (by rw [HE.out]; exact List.prefix_rfl)
        have HRd := Lib.hid hRd
        clear hRd he bx
        have ha0 : decide (0 ≤ (a : Int)) = true := by simp
        simp only [stS]
        gi_wp2
        refine ⟨(fun h => by cases h), HRd.out.mono ?_⟩
        rintro e W3 ⟨rfl, hJ3, hb3⟩
        gi_wp2
        go_end0
        exact ⟨⟨_, rfl⟩, by rw [HE.out]; exact hJ3⟩
set_option maxHeartbeats 1000000 in
theorem lib_FieldsSeq (s : ByteArray) (w : World) : Calls Tryd.prog 45 #[.string s] w fun e w' => e = .returned (.func (.func 61) #[] #[.pointer (some ⟨w.heap.size, 0, none⟩)]) ∧ w' = w.alloc (.cells #[.string s] 9) := by
  go_enter Tryd.func45, Tryd.ntmps45
  go_wp2
  go_ret
  exact ⟨rfl, rfl⟩
set_option maxRecDepth 100000 in
set_option maxHeartbeats 1000000 in
theorem impl_FieldsSeq (s : ByteArray) (w : World) (hs : s.size ≤ 1099511627776) (hT : Tabs w) (hS : Spaces w) : Calls Tryd.prog 26 #[.string s] w (NewStrs (fieldsP Lib.isSpaceR s) w) := by
  have hn := fieldsP_len Lib.isSpaceR s
  have hb0 : Below w.heap.size w (w.alloc (.cells #[.string s] 9)) := (Below.refl _ w).alloc (Nat.le_refl _) _
  have hfd := space_feeds w.heap.size s (w.alloc (.cells #[.string s] 9)) hs (Boxed.new w _ _) (hT.below hb0) (hS.below hb0)
  have CG := Lib.hid (impl_gathered 61 #[.pointer (some ⟨w.heap.size, 0, none⟩)] (enters_of Tryd.func61 (by kernel_rfl) rfl) (fieldsP Lib.isSpaceR s) (fun _ => False) w.heap.size (w.alloc (.cells #[.string s] 9)) hfd (fun r h => h.elim) (by simp) (by omega))
  have HB := Lib.hid hb0
  clear hfd hb0 hT hS hn
  generalize fieldsP Lib.isSpaceR s = L at *
  go_enter Tryd.func26, Tryd.ntmps26
  go_wp2_with fail
  refine (lib_FieldsSeq s w).mono ?_; rintro e w1 ⟨rfl, rfl⟩
  go_wp2_with fail
  refine CG.out.mono ?_; rintro e w2 ⟨g, c, rfl, ho, hb⟩
  go_wp2_with fail
  go_ret
  exact ⟨g, c, rfl, own_base ho (by simp), HB.out.trans hb⟩
end Go.Proofs.YteiginpjahmppaaDoor
