/-
  The contract of strings.ToValidUTF8 and impl.ToValidUTF8. Conditions: the tables of unicode/utf8 lie; the text, and what comes out, is of at most 2^40 bytes.
-/
import Derived.Test.YtlgibcphfmjddaaDoorValid
import Derived.Lib.OthersKept
import Derived.Lib.TrimU
import Derived.Deep.LoopGhost
namespace Go.Proofs.YtlgibcphfmjddaaDoor
open Go.RowKit
set_option linter.unusedVariables false

theorem dec_ascii (s : ByteArray) (k : Nat) (hk : k < s.size) (h : s[k].toNat < 128) : Utf8.decode s k = (s[k].toNat, 1) := by
  rw [Lib.decode_at, gb s k hk]; unfold Lib.decodeN; rw [if_pos h]
theorem dec_ascii_ok (s : ByteArray) (k : Nat) (hk : k < s.size) (h : s[k].toNat < 128) : okD (Utf8.decode s k) = true := by
  rw [dec_ascii s k hk h]
  have : (s[k].toNat == 65533) = false := by simp; omega
  simp [okD, this]
theorem dec_one (s : ByteArray) (k : Nat) (hk : k < s.size) (h : 128 ≤ s[k].toNat) (h1 : (Utf8.decode s k).2 = 1) : okD (Utf8.decode s k) = false := by
  cases ho : okD (Utf8.decode s k)
  · rfl
  · exfalso
    have hs := Lib.decodeN_shape (s.size - k) (s.get! k).toNat (s.get! (k + 1)).toNat (s.get! (k + 2)).toNat (s.get! (k + 3)).toNat
    rw [← Lib.decode_at, gb s k hk] at hs
    rcases hs with ⟨h3, _⟩ | ⟨_, _, _, _, e⟩ | ⟨_, _, _, _, _, _, e⟩ | ⟨_, _, _, _, _, _, _, e⟩ | e
    · omega
    · rw [e] at h1; simp at h1
    · rw [e] at h1; simp at h1
    · rw [e] at h1; simp at h1
    · rw [e] at ho; cases ho
theorem ext_one (s : ByteArray) (k : Nat) (hk : k < s.size) : (s.extract k (k + 1)).data.toList = [s[k]] := by
  rw [Lib.extract_data, show k + 1 - k = 1 by omega, List.drop_eq_getElem_cons (by rw [len_data]; exact hk)]
  rfl
theorem mend_split {s y : ByteArray} {k : Nat} {pre : List UInt8} (h : MendAt s y k false pre) (hk : k ≤ s.size) : mend s y = pre ++ mend (s.extract k s.size) y := by
  unfold MendAt at h
  rw [h]
  unfold mend
  rw [Lib.extract_data, List.take_of_length_le (by rw [List.length_drop, len_data]; omega)]
theorem Tabs.grow {w w' : World} (h : Tabs w) (hb : Below w.heap.size w w') : Tabs w' := h.below hb
/-- the second loop: what is behind the first byte that belongs to no sequence -/
def LoopB (s y : ByteArray) (pre : List UInt8) (w : World) (vi vk : Value) (wr : World) : Prop :=
  ∃ (k : Nat) (i : Bool) (d : List UInt8), k ≤ s.size ∧ vi = .bool i ∧ vk = .int .i64 (k : Int) ∧ Hid (MendAt s y k i d) ∧ Hid (Bld w.heap.size w.heap.size (pre ++ d) wr) ∧ Hid (Below w.heap.size w wr)
set_option maxRecDepth 100000 in
set_option maxHeartbeats 8000000 in
theorem lib_ToValidUTF8 (s y : ByteArray) (w : World) (hT : Tabs w) (hs : s.size ≤ 1099511627776) (hm : (mend s y).length ≤ 1099511627776) (hy : y.size ≤ 1099511627776) :
    Calls Tryd.prog 40 #[.string s, .string y] w fun e w' => e = .returned (.string ⟨(mend s y).toArray⟩) ∧ Below w.heap.size w w' := by
  have HML := Lib.hid hm
  have HT := Lib.hid hT
  clear hm hT
  go_enter Tryd.func40, Tryd.ntmps40
  go_wp2
  go_loopg [0] s.size (fun gf v0 wx => v0 = .string s ∧ ∃ pos : Nat, wx.heap[w.heap.size + 1]? = some (.stringIter s pos) ∧ Hid (wx.heap[w.heap.size]? = some (.cells #[.pointer none, .slice none 0 0] 76 (0, 0))) ∧ Hid (Below w.heap.size w wx) ∧ Hid (MendAt s y pos false (s.extract 0 pos).data.toList) ∧ s.size ≤ pos + gf)
  case atStart =>
    refine ⟨rfl, 0, by simpa using World.iter_heap (w.alloc (.cells #[.pointer none, .slice none 0 0] 76)) s 0, ?_, ?_, mendAt_zero s y, by omega⟩
    · exact (Lib.alloc_old _ _ _ (by simp)).trans (heap_alloc_new w _)
    · exact ((Below.refl _ w).alloc (Nat.le_refl _) _).alloc (by simp) _
  case round =>
    obtain ⟨rfl, pos, hit, HBK, HB, HM, hfu⟩ := hrel
    by_cases hps : pos < s.size
    · obtain ⟨g', rfl⟩ : ∃ g', gk = g' + 1 := ⟨gk - 1, by omega⟩
      have hnx : ∀ ty, (Instr.next (.pointer (some ⟨w.heap.size + 1, 0, none⟩)) true ty).run Tryd.prog wr = _ := fun ty => Lib.run_next_any_at wr (w.heap.size + 1) s pos ty hit hps
      have hfit := dec_fit s pos hps
      obtain ⟨R, hR⟩ : ∃ R, (Utf8.decode s pos).1 = R := ⟨_, rfl⟩
      obtain ⟨K, hK⟩ : ∃ K, (Utf8.decode s pos).2 = K := ⟨_, rfl⟩
      rw [hR, hK] at hnx
      rw [hK] at hfit
      have hit2 := Lib.iterAt_heap wr (w.heap.size + 1) s pos (pos + K) hit
      have hbw2 := Lib.below_iterAt HB.out (k := w.heap.size + 1) (by omega) s (pos + K)
      have hbk2 : (wr.iterAt (w.heap.size + 1) s (pos + K)).heap[w.heap.size]? = some (.cells #[.pointer none, .slice none 0 0] 76 (0, 0)) :=
        ((Lib.below_iterAt (Below.refl (w.heap.size + 1) wr) (k := w.heap.size + 1) (Nat.le_refl _) s (pos + K)).block w.heap.size (by omega)).trans HBK.out
      obtain ⟨W, hWd⟩ : ∃ W, wr.iterAt (w.heap.size + 1) s (pos + K) = W := ⟨_, rfl⟩
      rw [hWd] at hnx hit2 hbw2 hbk2
      have hltW : w.heap.size + 1 < W.heap.size := (Array.getElem?_eq_some_iff.1 hit2).1
      have CD := Tryd.utf8_DecodeRuneInString (s.extract pos s.size) W (HT.out.below hbw2)
      change Calls Tryd.prog _ _ _ (fun e w' => e = .returned (.tuple #[.int .i32 (Lib.decodeGoB (s.extract pos s.size)).1, .int .i64 (Lib.decodeGoB (s.extract pos s.size)).2]) ∧ _) at CD
      rw [decodeGo_at s pos hps, hR, hK] at CD
      have HCD := Lib.hid CD; have HBK2 := Lib.hid hbk2; have HIT2 := Lib.hid hit2; have HBW2 := Lib.hid hbw2
      clear CD hbk2 hit2 hbw2 hWd hit
      have hok : okD (Utf8.decode s pos) = okD (R, K) := by rw [← hR, ← hK]
      by_cases hR0 : R = 65533
      · subst hR0
        by_cases hK1 : K = 1
        · subst hK1
          have HO := Lib.hid (show okD (Utf8.decode s pos) = false by rw [hok]; rfl)
          have HSP := Lib.hid (mend_split HM.out (by omega))
          have hple : (s.extract 0 pos).size = pos := by rw [← len_data, Lib.extract_data, List.length_take, List.drop_zero, len_data]; omega
          have HPL := Lib.hid hple
          have hsz2 : (s.extract pos s.size).size = s.size - pos := by rw [← len_data, Lib.extract_data, List.length_take, List.length_drop, len_data]; omega
          have HS2 := Lib.hid hsz2
          clear hok hR hK hple hsz2
          go_wp2_with (first
            | (go_at_call 50; refine HCD.out.mono ?_; rintro e W1 ⟨rfl, hb1⟩; have HB1 := Lib.hid (HBW2.out.trans (hb1.mono HBW2.out.size)); have HBK3 := Lib.hid ((hb1.block _ (by omega)).trans HBK2.out); have HIT3 := Lib.hid ((hb1.block _ hltW).trans HIT2.out); clear hb1)
            | (go_at_call 52; refine (Tryd.Builder_Grow_fresh_cap w.heap.size w.heap.size (s.size + y.size) _ (Nat.le_refl _) HBK3.out HB1.out.size (by omega)).mono ?_; rintro e W2 ⟨rfl, ⟨hb2, hbw⟩, hcap⟩; obtain ⟨g, cap, hcp, hbc⟩ := bldC_of hb2 hcap (by omega); have HBC := Lib.hid hbc; have HB2 := Lib.hid (HB1.out.trans hbw); clear hb2 hbw hcap hbc)
            | (go_at_call 53; refine (bld_WriteString_room w.heap.size w.heap.size [] g cap (s.extract 0 pos) _ HBC.out (by rw [HPL.out]; simp; omega) HB2.out.size (by rw [HPL.out]; simp; omega)).mono ?_; rintro e W3 ⟨rfl, hbc3, hb3⟩; rw [List.nil_append] at hbc3; have HBC3 := Lib.hid hbc3; have hcl := hbc3.cell; have HB3 := Lib.hid (HB2.out.trans hb3); have hcp0 : ((cap : Int) == 0) = false := (by simp; omega); clear hb3 hbc3)
            | (go_at_call 55; refine (Tryd.Builder_Cap_cell w.heap.size (some ⟨g, 0, none⟩) _ cap _ hcl).mono ?_; rintro e W4 ⟨rfl, rfl⟩)
            | fail)
          obtain ⟨s2, hs2⟩ : ∃ s2, s2 = s.extract pos s.size := ⟨_, rfl⟩
          obtain ⟨pre, hpre⟩ : ∃ pre, pre = (s.extract 0 pos).data.toList := ⟨_, rfl⟩
          rw [← hs2] at HSP HS2 ⊢
          rw [← hpre] at HSP HBC3
          have hs2n : s2.size ≤ 1099511627776 := by rw [HS2.out]; omega
          have HBD := Lib.hid HBC3.out.bld
          clear hcl HBC3 HBC HB2 hs2 hpre HCD HBK2 HIT2 HBW2 hnx HBK HB HM hcp0 hcp HPL HO
          go_loopw [10, 11] (fun vi vk wx => LoopB s2 y pre w vi vk wx) (fun _ vk _ => s2.size - (intOf vk).toNat)
          case atStart => exact ⟨0, false, [], Nat.zero_le _, rfl, rfl, mendAt_start s2 y, by rw [List.append_nil]; exact HBD.out, HB3.out⟩
          case round =>
            obtain ⟨k, i, d, hk, rfl, rfl, HMA, HBd, HBr⟩ := hrel
            have hpl : (pre ++ d).length ≤ 1099511627776 := by
              have h1 := HML.out
              have h2 := HMA.out
              unfold MendAt at h2
              rw [HSP.out, h2, List.length_append, List.length_append] at h1
              rw [List.length_append]; omega
            by_cases hlt : k < s2.size
            · by_cases hc : s2[k].toNat < 128
              · have hN := HMA.out.ok hlt (n := 1) (by rw [dec_ascii s2 k hlt hc]) (dec_ascii_ok s2 k hlt hc)
                rw [ext_one s2 k hlt] at hN
                have HN := Lib.hid hN; clear hN
                go_wp2_with (go_at_call 56; refine (bld_WriteByte w.heap.size w.heap.size (pre ++ d) s2[k] _ HBd.out (by omega) HBr.out.size).mono ?_; rintro e W5 ⟨rfl, hd5, hb5⟩; rw [List.append_assoc] at hd5; have HD5 := Lib.hid hd5; have HB5 := Lib.hid (HBr.out.trans hb5); clear hd5 hb5)
                go_roundw
                case rel => exact ⟨k + 1, false, d ++ [s2[k]], by omega, rfl, by go_num, HN.out, HD5.out, HB5.out⟩
                case measure => simp [intOf]; omega
              · have CD2 := Tryd.utf8_DecodeRuneInString (s2.extract k s2.size) wr (HT.out.below HBr.out)
                change Calls Tryd.prog _ _ _ (fun e w' => e = .returned (.tuple #[.int .i32 (Lib.decodeGoB (s2.extract k s2.size)).1, .int .i64 (Lib.decodeGoB (s2.extract k s2.size)).2]) ∧ _) at CD2
                rw [decodeGo_at s2 k hlt] at CD2
                have hfit2 := dec_fit s2 k hlt
                obtain ⟨R2, hR2⟩ : ∃ R, (Utf8.decode s2 k).1 = R := ⟨_, rfl⟩
                obtain ⟨K2, hK2⟩ : ∃ K, (Utf8.decode s2 k).2 = K := ⟨_, rfl⟩
                rw [hR2, hK2] at CD2
                rw [hK2] at hfit2
                have HCD2 := Lib.hid CD2; clear CD2
                by_cases hK1 : K2 = 1
                · subst hK1
                  have ho := dec_one s2 k hlt (by omega) hK2
                  cases i
                  · have HN := Lib.hid (HMA.out.bad hlt ho)
                    clear hK2 hR2 ho
                    go_wp2_with (first
                      | (go_at_call 50; refine HCD2.out.mono ?_; rintro e W5 ⟨rfl, hb5⟩; have HB5 := Lib.hid (HBr.out.trans (hb5.mono HBr.out.size)); have HD5 := Lib.hid (HBd.out.kept hb5); clear hb5)
                      | (go_at_call 53; refine (bld_WriteString w.heap.size w.heap.size (pre ++ d) y _ HD5.out (by omega) HB5.out.size).mono ?_; rintro e W6 ⟨rfl, hd6, hb6⟩; rw [List.append_assoc] at hd6; have HD6 := Lib.hid hd6; have HB6 := Lib.hid (HB5.out.trans hb6); clear hd6 hb6))
                    go_roundw
                    case rel => exact ⟨k + 1, true, d ++ y.data.toList, by omega, rfl, by go_num, HN.out, HD6.out, HB6.out⟩
                    case measure => simp [intOf]; omega
                  · have HN := Lib.hid (HMA.out.bad2 hlt ho)
                    clear hK2 hR2 ho
                    go_wp2_with (go_at_call 50; refine HCD2.out.mono ?_; rintro e W5 ⟨rfl, hb5⟩; have HB5 := Lib.hid (HBr.out.trans (hb5.mono HBr.out.size)); have HD5 := Lib.hid (HBd.out.kept hb5); clear hb5)
                    go_roundw
                    case rel => exact ⟨k + 1, true, d, by omega, rfl, by go_num, HN.out, HD5.out, HB5.out⟩
                    case measure => simp [intOf]; omega
                · have ho : okD (Utf8.decode s2 k) = true := by
                    unfold okD; rw [hK2]; simp [hK1]
                  have HN := Lib.hid (HMA.out.ok hlt hK2.symm ho)
                  have hKb : ((K2 : Int) == 1) = false := by simp; omega
                  have hxs : (s2.extract k (k + K2)).size ≤ 1099511627776 := by rw [← len_data, ext_len s2 k K2 (by omega)]; omega
                  have HXS := Lib.hid hxs
                  clear hK2 hR2 ho hxs
                  go_wp2_with (first
                    | (go_at_call 50; refine HCD2.out.mono ?_; rintro e W5 ⟨rfl, hb5⟩; have HB5 := Lib.hid (HBr.out.trans (hb5.mono HBr.out.size)); have HD5 := Lib.hid (HBd.out.kept hb5); clear hb5)
                    | (go_at_call 53; refine (bld_WriteString w.heap.size w.heap.size (pre ++ d) (s2.extract k (k + K2)) _ HD5.out (by have := HXS.out; omega) HB5.out.size).mono ?_; rintro e W6 ⟨rfl, hd6, hb6⟩; rw [List.append_assoc] at hd6; have HD6 := Lib.hid hd6; have HB6 := Lib.hid (HB5.out.trans hb6); clear hd6 hb6))
                  go_roundw
                  case rel => exact ⟨k + K2, false, _, by omega, rfl, by go_num, HN.out, HD6.out, HB6.out⟩
                  case measure => simp [intOf]; omega
            · have HE := Lib.hid (HMA.out.end_ (by omega))
              go_wp2_with (go_at_call 57; refine (Tryd.Builder_String_any w.heap.size w.heap.size (pre ++ d) _ (.inr HBd.out) HBr.out.size).mono ?_; rintro e W6 ⟨rfl, hb6⟩)
              go_ret
              exact ⟨ret_str (by rw [HSP.out, HE.out]), HBr.out.trans hb6⟩
        · have ho : okD (Utf8.decode s pos) = true := by rw [hok]; simp [okD, hK1]
          have HN := Lib.hid (mendAt_pre HM.out hps hK.symm ho)
          have hKb : ((K : Int) == 1) = false := by simp; omega
          clear hok hR hK ho
          go_wp2_with (go_at_call 50; refine HCD.out.mono ?_; rintro e W1 ⟨rfl, hb1⟩; have HB1 := Lib.hid (HBW2.out.trans (hb1.mono HBW2.out.size)); have HBK3 := Lib.hid ((hb1.block _ (by omega)).trans HBK2.out); have HIT3 := Lib.hid ((hb1.block _ hltW).trans HIT2.out); clear hb1)
          go_roundg g'
          case measure => omega
          case rel => exact ⟨rfl, pos + K, HIT3.out, HBK3.out, HB1.out, HN.out, by omega⟩
      · have ho : okD (Utf8.decode s pos) = true := by rw [hok]; simp [okD, hR0]
        have HN := Lib.hid (mendAt_pre HM.out hps hK.symm ho)
        have hRb : ((R : Int) == 65533) = false := by simp; omega
        clear hok hR hK ho
        go_wp2_with fail
        go_roundg g'
        case measure => omega
        case rel => exact ⟨rfl, pos + K, HIT2.out, HBK2.out, HBW2.out, HN.out, by omega⟩
    · have hnx : ∀ ty, (Instr.next (.pointer (some ⟨w.heap.size + 1, 0, none⟩)) true ty).run Tryd.prog wr = _ := fun ty => Lib.run_next_end_at wr (w.heap.size + 1) s pos ty hit hps
      have hcl : wr.cell? ⟨w.heap.size, 1, none⟩ = some (.slice none 0 0) := by rw [Lib.cell_of_heap HBK.out]; rfl
      have HE := Lib.hid (mendAt_same HM.out (by omega))
      go_wp2_with (go_at_call 55; refine (Tryd.Builder_Cap_cell w.heap.size none 0 0 _ hcl).mono ?_; rintro e W4 ⟨rfl, rfl⟩)
      go_ret
      exact ⟨ret_str (by rw [HE.out]), HB.out⟩
set_option maxHeartbeats 1000000 in
theorem impl_ToValidUTF8 (s y : ByteArray) (w : World) (hT : Tabs w) (hs : s.size ≤ 1099511627776) (hm : (mend s y).length ≤ 1099511627776) (hy : y.size ≤ 1099511627776) :
    Calls Tryd.prog 24 #[.string s, .string y] w fun e w' => e = .returned (.string ⟨(mend s y).toArray⟩) ∧ Below w.heap.size w w' := by
  have HJ := Lib.hid (lib_ToValidUTF8 s y w hT hs hm hy)
  clear hm
  go_enter Tryd.func24, Tryd.ntmps24
  go_wp2_with fail
  refine HJ.out.mono ?_; rintro e w1 ⟨rfl, hb1⟩
  go_wp2_with fail
  go_ret
  exact ⟨rfl, hb1⟩
end Go.Proofs.YtlgibcphfmjddaaDoor
