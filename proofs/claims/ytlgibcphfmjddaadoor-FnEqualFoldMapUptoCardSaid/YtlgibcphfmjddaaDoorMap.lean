/-
  The contract of strings.Map where it is handed a method value of a table. Conditions: the tables of unicode/utf8 lie; the text is of at most 2^40 bytes.
-/
import Derived.Test.YtlgibcphfmjddaaDoorMapL
import Derived.Deep.CutBlock
import Derived.Deep.DeepCutAuto
namespace Go.Proofs.YtlgibcphfmjddaaDoor
open Go.RowKit
set_option linter.unusedVariables false

/-- what is asked of a method value that is handed on: its function, called with its receiver in any later world -/
def MapB (r : Value) (f : Int → Int) (w : World) : Prop :=
  ∀ (W : World) (x : Nat), x ≤ 1114111 → Below w.heap.size w W → Calls Tryd.prog 35 #[r, .int .i32 (x : Int)] W fun e w' => e = .returned (.int .i32 (f x)) ∧ Below W.heap.size W w'
theorem MapB.later {r : Value} {f : Int → Int} {w W : World} (h : MapB r f w) (hb : Below w.heap.size w W) : MapB r f W :=
  fun W' x hx hb' => h W' x hx (hb.trans (hb'.mono hb.size))
theorem enc_pos (r : Int) : 0 < (Lib.encodeRune r).length := by
  have := Lib.encodeRuneZ_length r
  unfold Lib.encodeRune; rw [List.length_map]; omega
theorem enc_le (r : Int) : (Lib.encodeRune r).length ≤ 4 := by
  have := Lib.encodeRuneZ_length r
  unfold Lib.encodeRune; rw [List.length_map]; omega
theorem byte_of (F : Int) (h0 : 0 ≤ F) (h1 : F < 128) : ∃ c : UInt8, F = (c.toNat : Int) ∧ c.toNat < 128 := by
  refine ⟨UInt8.ofNat F.toNat, ?_⟩
  have : (UInt8.ofNat F.toNat).toNat = F.toNat := by rw [UInt8.toNat_ofNat']; omega
  rw [this]; omega
theorem enc_byte {F : Int} {c : UInt8} (h : F = (c.toNat : Int)) (h1 : c.toNat < 128) : Lib.encodeRune F = [c] := by
  unfold Lib.encodeRune
  rw [Lib.encodeRuneZ_one (by omega) (by omega), List.map_cons, Lib.toByte F c h]
  rfl
theorem map_len (f : Int → Int) : ∀ l : List UInt8, (Lib.mapD f l).length ≤ 4 * l.length := by
  refine chs_ind ?_ ?_
  · rw [Lib.mapD_nil]; simp
  · intro l hl ih
    have h1 := dL_pos l
    have h2 := dL_le l hl
    rw [Lib.mapD_step f l hl, List.length_append]
    rw [List.length_drop] at ih
    have h3 := enc_le (f (Lib.decodeL l).1)
    split <;> simp <;> omega
theorem map_step (f : Int → Int) (s : ByteArray) (k : Nat) (hk : k < s.size) : Lib.mapD f (s.data.toList.drop k) = (if 0 ≤ f ((Utf8.decode s k).1 : Int) then Lib.encodeRune (f ((Utf8.decode s k).1 : Int)) else []) ++ Lib.mapD f (s.data.toList.drop (k + (Utf8.decode s k).2)) := by
  rw [Lib.mapD_step f _ (ne_drop hk), List.drop_drop, ← decode_drop]
/-- so far nothing has been changed -/
theorem map_keep (f : Int → Int) (s : ByteArray) (pos K : Nat) (ANS : List UInt8) (h : s.data.toList.take pos ++ Lib.mapD f (s.data.toList.drop pos) = ANS) (hk : pos < s.size) (hK : K = (Utf8.decode s pos).2) (hf : f ((Utf8.decode s pos).1 : Int) = ((Utf8.decode s pos).1 : Int)) (hv : ¬ ((Utf8.decode s pos).1 = 65533 ∧ (Utf8.decode s pos).2 = 1)) :
    s.data.toList.take (pos + K) ++ Lib.mapD f (s.data.toList.drop (pos + K)) = ANS := by
  rw [decode_drop] at hK hf hv
  rw [Lib.mapD_same f _ (ne_drop hk) hf hv, List.drop_drop, ← hK, ← List.append_assoc, ← List.take_add] at h
  exact h
/-- here a code point is changed -/
theorem map_split (f : Int → Int) (s : ByteArray) (pos K : Nat) (ANS : List UInt8) (h : s.data.toList.take pos ++ Lib.mapD f (s.data.toList.drop pos) = ANS) (hk : pos < s.size) (hK : K = (Utf8.decode s pos).2) (hle : pos + K ≤ s.size) :
    ((s.extract 0 pos).data.toList ++ (if 0 ≤ f ((Utf8.decode s pos).1 : Int) then Lib.encodeRune (f ((Utf8.decode s pos).1 : Int)) else [])) ++ Lib.mapD f (s.extract (pos + K) s.size).data.toList = ANS := by
  rw [map_step f s pos hk, ← hK] at h
  rw [Lib.extract_data, List.drop_zero, Nat.sub_zero, Lib.extract_data, List.take_of_length_le (l := s.data.toList.drop (pos + K)) (by rw [List.length_drop, len_data]; omega), List.append_assoc]
  exact h
theorem Bld.iterAt {B b : Nat} {l : List UInt8} {w : World} {it : Nat} {s : ByteArray} {p : Nat} (h : Bld B b l w) (hi : w.heap[it]? = some (.stringIter s p)) (p' : Nat) : Bld B b l (w.iterAt it s p') := by
  obtain ⟨hB, v, hbk, hown, hne⟩ := h
  have hbi : b ≠ it := by intro e; subst e; rw [hbk] at hi; cases hi
  refine ⟨hB, v, (Lib.iterAt_other w it b s p' hbi).trans hbk, ?_, hne⟩
  refine hown.kept (row := some it) ⟨rfl, rfl, rfl, Nat.le_of_eq (Lib.iterAt_size w it s p').symm, fun k _ hk => Lib.iterAt_other w it k s p' (fun e => hk (by simp [e]))⟩ (.inr ?_)
  rcases hown.2 with ⟨hv, _⟩ | ⟨g, cap, cur, hv, _, hg, _⟩
  · rw [hv]; simp [Value.ownBlock]
  · rw [hv]; intro e
    simp only [Value.ownBlock, Option.some.injEq] at e
    subst e; rw [hg] at hi; cases hi
/-- the second loop: what is behind the first code point that is changed -/
def LoopM (f : Int → Int) (s : ByteArray) (ANS : List UInt8) (w : World) (it gf : Nat) (wx : World) : Prop :=
  ∃ (pos : Nat) (done : List UInt8), wx.heap[it]? = some (.stringIter s pos) ∧ Hid (Bld w.heap.size w.heap.size done wx) ∧ Hid (Below w.heap.size w wx) ∧ Hid (done ++ Lib.mapD f (s.data.toList.drop pos) = ANS) ∧ s.size ≤ pos + gf
/-- what is known behind the first loop -/
def MapCut (f : Int → Int) (s : ByteArray) (ANS : List UInt8) (w : World) (v : Value) (wx : World) : Prop :=
  Hid (Below w.heap.size w wx) ∧ ((v = .string s ∧ Hid (wx.heap[w.heap.size]? = some (.cells #[.pointer none, .slice none 0 0] 76 (0, 0))) ∧ Hid (s.data.toList = ANS)) ∨
    ∃ (s2 : ByteArray) (done : List UInt8) (p : Option Addr) (n cap : Nat), v = .string s2 ∧ s2.size ≤ 1099511627776 ∧ Hid (Bld w.heap.size w.heap.size done wx) ∧ wx.cell? ⟨w.heap.size, 1, none⟩ = some (.slice p n cap) ∧ 0 < cap ∧ Hid (done ++ Lib.mapD f s2.data.toList = ANS))
set_option maxRecDepth 100000 in
set_option maxHeartbeats 4000000 in
theorem lib_Map (r : Value) (f : Int → Int) (s : ByteArray) (w : World) (hp : MapB r f w) (hnn : ∀ x : Nat, x ≤ 1114111 → -2147483648 ≤ f x ∧ f x ≤ 2147483647) (hs : s.size ≤ 1099511627776) (hT : Tabs w) :
    Calls Tryd.prog 34 #[.func (.func 35) #[r] #[], .string s] w fun e w' => e = .returned (.string ⟨(Lib.mapD f s.data.toList).toArray⟩) ∧ Below w.heap.size w w' := by
  have hal := map_len f s.data.toList
  rw [len_data] at hal
  obtain ⟨ANS, hANS⟩ : ∃ ANS, Lib.mapD f s.data.toList = ANS := ⟨_, rfl⟩
  rw [hANS] at hal ⊢
  have HAL := Lib.hid (show ANS.length ≤ 4398046511104 by omega)
  have HT := Lib.hid hT; have HP := Lib.hid hp; have HNN := Lib.hid hnn; have HANS := Lib.hid hANS
  clear hal hT hp hnn hANS
  go_enter Tryd.func34, Tryd.ntmps34
  go_upto_block 0 with fail
  go_cut [1] (fun v1 wx => MapCut f s ANS w v1 wx)
  case first =>
    go_wp2_with fail
    go_loopg [1] s.size (fun gf v1 wx => v1 = .string s ∧ ∃ pos : Nat, wx.heap[w.heap.size + 1]? = some (.stringIter s pos) ∧ Hid (wx.heap[w.heap.size]? = some (.cells #[.pointer none, .slice none 0 0] 76 (0, 0))) ∧ Hid (Below w.heap.size w wx) ∧ Hid (s.data.toList.take pos ++ Lib.mapD f (s.data.toList.drop pos) = ANS) ∧ s.size ≤ pos + gf ∧ pos ≤ s.size)
    case atStart =>
      refine ⟨rfl, 0, by simpa using World.iter_heap (w.alloc (.cells #[.pointer none, .slice none 0 0] 76)) s 0, ?_, ?_, by rw [List.take_zero, List.drop_zero]; exact HANS.out, by omega, by omega⟩
      · exact (Lib.alloc_old _ _ _ (by simp)).trans (heap_alloc_new w _)
      · exact ((Below.refl _ w).alloc (Nat.le_refl _) _).alloc (by simp) _
    case round =>
      obtain ⟨rfl, pos, hit, HBK, HB, HSP, hfu, hple⟩ := hrel
      by_cases hps : pos < s.size
      · obtain ⟨g', rfl⟩ : ∃ g', gk = g' + 1 := ⟨gk - 1, by omega⟩
        have hnx : ∀ ty, (Instr.next (.pointer (some ⟨w.heap.size + 1, 0, none⟩)) true ty).run Tryd.prog wr = _ := fun ty => Lib.run_next_any_at wr (w.heap.size + 1) s pos ty hit hps
        have hfit := dec_fit s pos hps
        have hrl := Lib.rune_le s pos
        have hrn := Lib.runeLen_decode (s.data.toList.drop pos)
        rw [← decode_drop] at hrn
        obtain ⟨R, hR⟩ : ∃ R, (Utf8.decode s pos).1 = R := ⟨_, rfl⟩
        obtain ⟨K, hK⟩ : ∃ K, (Utf8.decode s pos).2 = K := ⟨_, rfl⟩
        rw [hR, hK] at hnx hrn
        rw [hK] at hfit
        rw [hR] at hrl
        have hit2 := Lib.iterAt_heap wr (w.heap.size + 1) s pos (pos + K) hit
        have hbw2 := Lib.below_iterAt HB.out (k := w.heap.size + 1) (by omega) s (pos + K)
        have hbk2 := (Lib.iterAt_other wr (w.heap.size + 1) w.heap.size s (pos + K) (by omega)).trans HBK.out
        obtain ⟨W, hWd⟩ : ∃ W, wr.iterAt (w.heap.size + 1) s (pos + K) = W := ⟨_, rfl⟩
        rw [hWd] at hnx hit2 hbw2 hbk2
        have hltW : w.heap.size + 1 < W.heap.size := (Array.getElem?_eq_some_iff.1 hit2).1
        have CM := Lib.hid (HP.out W R hrl hbw2)
        have CD := Lib.hid (fun (W : World) (hb : Below w.heap.size w W) => by
          have CD := Tryd.utf8_DecodeRuneInString (s.extract pos s.size) W (HT.out.below hb)
          change Calls Tryd.prog _ _ _ (fun e w' => e = .returned (.tuple #[.int .i32 (Lib.decodeGoB (s.extract pos s.size)).1, .int .i64 (Lib.decodeGoB (s.extract pos s.size)).2]) ∧ _) at CD
          rw [decodeGo_at s pos hps, hR, hK] at CD
          exact CD)
        have HBK2 := Lib.hid hbk2; have HIT2 := Lib.hid hit2; have HBW2 := Lib.hid hbw2; have HRL := Lib.hid hrn
        obtain ⟨n0, n1⟩ := HNN.out R hrl
        obtain ⟨F, hF⟩ : ∃ F, f (R : Int) = F := ⟨_, rfl⟩
        rw [hF] at CM n0 n1
        clear hbk2 hit2 hbw2 hWd hit hrn
        by_cases hR0 : R = 65533
        · subst hR0
          by_cases hkeep : K ≠ 1 ∧ F = 65533
          · have hKb : ((K : Int) == 1) = false := by simp; omega
            have hFb : (F == 65533) = true := by simp [hkeep.2]
            have HN := Lib.hid (map_keep f s pos K ANS HSP.out hps hK.symm (by rw [hR, hF]; omega) (by rw [hR, hK]; omega))
            clear hR hK hF
            go_wp2_with (first | (go_at_call 35; refine CM.out.mono ?_; rintro e W1 ⟨rfl, hb1⟩; have HB1 := Lib.hid (HBW2.out.trans (hb1.mono HBW2.out.size)); have HBK3 := Lib.hid ((hb1.block _ (by omega)).trans HBK2.out); have HIT3 := Lib.hid ((hb1.block _ hltW).trans HIT2.out); have hlt1 : w.heap.size + 1 < W1.heap.size := (by have := hb1.size; omega); clear hb1) | (go_at_call 50; refine (CD.out _ HB1.out).mono ?_; rintro e W2 ⟨rfl, hb2⟩; have HB1 := Lib.hid (HB1.out.trans (hb2.mono HB1.out.size)); have HBK3 := Lib.hid ((hb2.block _ (by omega)).trans HBK3.out); have HIT3 := Lib.hid ((hb2.block _ hlt1).trans HIT3.out); clear hb2))
            go_roundg g'
            case measure => omega
            case rel => exact ⟨rfl, pos + K, HIT3.out, HBK3.out, HB1.out, HN.out, by omega, by omega⟩
          · have hcase : K = 1 ∨ (F == 65533) = false := by
              by_cases h1 : K = 1
              · exact .inl h1
              · exact .inr (by simp; intro h2; exact hkeep ⟨h1, h2⟩)
            by_cases hneg : F < 0
            · have hFb : (F == 65533) = false := by simp; omega
              by_cases hK1 : K = 1
              · subst hK1
                have HX2 := Lib.hid (map_split f s pos 1 ANS HSP.out hps hK.symm hfit.1)
                rw [hR, hF] at HX2
                rw [if_neg (by omega), List.append_nil] at HX2
                have hpl : (s.extract 0 pos).size = pos := by rw [← len_data, Lib.extract_data, List.length_take, List.drop_zero, len_data]; omega
                have HPL := Lib.hid hpl
                have HS2 := Lib.hid (show (s.extract (pos + 1) s.size).size = s.size - (pos + 1) by rw [← len_data, Lib.extract_data, List.length_take, List.length_drop, len_data]; omega)
                clear hpl hR hK hF
                go_wp2_with (first
                  | (go_at_call 35; refine CM.out.mono ?_; rintro e W1 ⟨rfl, hb1⟩; have HB1 := Lib.hid (HBW2.out.trans (hb1.mono HBW2.out.size)); have HBK3 := Lib.hid ((hb1.block _ (by omega)).trans HBK2.out); have HIT3 := Lib.hid ((hb1.block _ hltW).trans HIT2.out); have hlt1 : w.heap.size + 1 < W1.heap.size := (by have := hb1.size; omega); clear hb1)
                  | (go_at_call 50; refine (CD.out _ HB1.out).mono ?_; rintro e W2 ⟨rfl, hb2⟩; have HB1 := Lib.hid (HB1.out.trans (hb2.mono HB1.out.size)); have HBK3 := Lib.hid ((hb2.block _ (by omega)).trans HBK3.out); have HIT3 := Lib.hid ((hb2.block _ hlt1).trans HIT3.out); clear hb2)
                  | (go_at_call 52; refine (Tryd.Builder_Grow_fresh_cap w.heap.size w.heap.size (s.size + 4) _ (Nat.le_refl _) HBK3.out HB1.out.size (by omega)).mono ?_; rintro e W3 ⟨rfl, ⟨hb2, hbw⟩, hcap⟩; obtain ⟨g, cap, hcp, hbc⟩ := bldC_of hb2 hcap (by omega); have HBC := Lib.hid hbc; have HB2 := Lib.hid (HB1.out.trans hbw); clear hb2 hbw hcap hbc)
                  | (go_at_call 53; refine (bld_WriteString_room w.heap.size w.heap.size [] g cap (s.extract 0 pos) _ HBC.out (by rw [HPL.out]; simp; omega) HB2.out.size (by rw [HPL.out]; simp; omega)).mono ?_; rintro e W4 ⟨rfl, hbc3, hb3⟩; rw [List.nil_append] at hbc3; have HBC3 := Lib.hid hbc3; have hcl := hbc3.cell; have HB3 := Lib.hid (HB2.out.trans hb3); have hcp0 : ((cap : Int) == 0) = false := (by simp; omega); clear hb3 hbc3)
                  | fail)
                go_meet
                refine ⟨HB3.out, .inr ⟨_, _, _, _, _, rfl, by rw [HS2.out]; omega, HBC3.out.bld, hcl, by omega, HX2.out⟩⟩
              · have hKb : ((K : Int) == 1) = false := by simp; omega
                have HX2 := Lib.hid (map_split f s pos K ANS HSP.out hps hK.symm hfit.1)
                rw [hR, hF] at HX2
                rw [if_neg (by omega), List.append_nil] at HX2
                have hpl : (s.extract 0 pos).size = pos := by rw [← len_data, Lib.extract_data, List.length_take, List.drop_zero, len_data]; omega
                have HPL := Lib.hid hpl
                have HS2 := Lib.hid (show (s.extract (pos + K) s.size).size = s.size - (pos + K) by rw [← len_data, Lib.extract_data, List.length_take, List.length_drop, len_data]; omega)
                clear hpl hR hK hF
                go_wp2_with (first
                  | (go_at_call 35; refine CM.out.mono ?_; rintro e W1 ⟨rfl, hb1⟩; have HB1 := Lib.hid (HBW2.out.trans (hb1.mono HBW2.out.size)); have HBK3 := Lib.hid ((hb1.block _ (by omega)).trans HBK2.out); have HIT3 := Lib.hid ((hb1.block _ hltW).trans HIT2.out); have hlt1 : w.heap.size + 1 < W1.heap.size := (by have := hb1.size; omega); clear hb1)
                  | (go_at_call 50; refine (CD.out _ HB1.out).mono ?_; rintro e W2 ⟨rfl, hb2⟩; have HB1 := Lib.hid (HB1.out.trans (hb2.mono HB1.out.size)); have HBK3 := Lib.hid ((hb2.block _ (by omega)).trans HBK3.out); have HIT3 := Lib.hid ((hb2.block _ hlt1).trans HIT3.out); clear hb2)
                  | (go_at_call 52; refine (Tryd.Builder_Grow_fresh_cap w.heap.size w.heap.size (s.size + 4) _ (Nat.le_refl _) HBK3.out HB1.out.size (by omega)).mono ?_; rintro e W3 ⟨rfl, ⟨hb2, hbw⟩, hcap⟩; obtain ⟨g, cap, hcp, hbc⟩ := bldC_of hb2 hcap (by omega); have HBC := Lib.hid hbc; have HB2 := Lib.hid (HB1.out.trans hbw); clear hb2 hbw hcap hbc)
                  | (go_at_call 53; refine (bld_WriteString_room w.heap.size w.heap.size [] g cap (s.extract 0 pos) _ HBC.out (by rw [HPL.out]; simp; omega) HB2.out.size (by rw [HPL.out]; simp; omega)).mono ?_; rintro e W4 ⟨rfl, hbc3, hb3⟩; rw [List.nil_append] at hbc3; have HBC3 := Lib.hid hbc3; have hcl := hbc3.cell; have HB3 := Lib.hid (HB2.out.trans hb3); have hcp0 : ((cap : Int) == 0) = false := (by simp; omega); clear hb3 hbc3)
                  | fail)
                go_meet
                refine ⟨HB3.out, .inr ⟨_, _, _, _, _, rfl, by rw [HS2.out]; omega, HBC3.out.bld, hcl, by omega, HX2.out⟩⟩
            · by_cases hK1 : K = 1
              · subst hK1
                have hFx : (F == 65533) = true ∨ (F == 65533) = false := by cases (F == 65533) <;> simp
                rcases hFx with hFb | hFb
                · skip
                  have HX2 := Lib.hid (map_split f s pos 1 ANS HSP.out hps hK.symm hfit.1)
                  rw [hR, hF] at HX2
                  rw [if_pos (by omega)] at HX2
                  have hpl : (s.extract 0 pos).size = pos := by rw [← len_data, Lib.extract_data, List.length_take, List.drop_zero, len_data]; omega
                  have HPL := Lib.hid hpl
                  have HS2 := Lib.hid (show (s.extract (pos + 1) s.size).size = s.size - (pos + 1) by rw [← len_data, Lib.extract_data, List.length_take, List.length_drop, len_data]; omega)
                  clear hpl hR hK hF
                  go_wp2_with (first
                    | (go_at_call 35; refine CM.out.mono ?_; rintro e W1 ⟨rfl, hb1⟩; have HB1 := Lib.hid (HBW2.out.trans (hb1.mono HBW2.out.size)); have HBK3 := Lib.hid ((hb1.block _ (by omega)).trans HBK2.out); have HIT3 := Lib.hid ((hb1.block _ hltW).trans HIT2.out); have hlt1 : w.heap.size + 1 < W1.heap.size := (by have := hb1.size; omega); clear hb1)
                    | (go_at_call 50; refine (CD.out _ HB1.out).mono ?_; rintro e W2 ⟨rfl, hb2⟩; have HB1 := Lib.hid (HB1.out.trans (hb2.mono HB1.out.size)); have HBK3 := Lib.hid ((hb2.block _ (by omega)).trans HBK3.out); have HIT3 := Lib.hid ((hb2.block _ hlt1).trans HIT3.out); clear hb2)
                    | (go_at_call 52; refine (Tryd.Builder_Grow_fresh_cap w.heap.size w.heap.size (s.size + 4) _ (Nat.le_refl _) HBK3.out HB1.out.size (by omega)).mono ?_; rintro e W3 ⟨rfl, ⟨hb2, hbw⟩, hcap⟩; obtain ⟨g, cap, hcp, hbc⟩ := bldC_of hb2 hcap (by omega); have HBC := Lib.hid hbc; have HB2 := Lib.hid (HB1.out.trans hbw); clear hb2 hbw hcap hbc)
                    | (go_at_call 53; refine (bld_WriteString_room w.heap.size w.heap.size [] g cap (s.extract 0 pos) _ HBC.out (by rw [HPL.out]; simp; omega) HB2.out.size (by rw [HPL.out]; simp; omega)).mono ?_; rintro e W4 ⟨rfl, hbc3, hb3⟩; rw [List.nil_append] at hbc3; have HBC3 := Lib.hid hbc3; have hcl := hbc3.cell; have HB3 := Lib.hid (HB2.out.trans hb3); have hcp0 : ((cap : Int) == 0) = false := (by simp; omega); clear hb3 hbc3)
                    | (go_at_call 54; refine (bld_WriteRune w.heap.size w.heap.size (s.extract 0 pos).data.toList F _ HBC3.out.bld n0 n1 (by rw [len_data, HPL.out]; omega) HB3.out.size).mono ?_; rintro e W5 ⟨⟨v5, rfl⟩, hd5, hb5, _⟩; have HD5 := Lib.hid hd5; have HB5 := Lib.hid (HB3.out.trans hb5); clear hcl hcp0; obtain ⟨rp, rn, rcap, hcl, hrc⟩ := hd5.room (by rw [← List.length_pos_iff, List.length_append]; have := enc_pos F; omega); have hcp0 : ((rcap : Int) == 0) = false := (by simp; omega); clear hd5 hb5)
                    | fail)
                  go_meet
                  refine ⟨HB5.out, .inr ⟨_, _, _, _, _, rfl, by rw [HS2.out]; omega, HD5.out, hcl, by omega, HX2.out⟩⟩
                · skip
                  have HX2 := Lib.hid (map_split f s pos 1 ANS HSP.out hps hK.symm hfit.1)
                  rw [hR, hF] at HX2
                  rw [if_pos (by omega)] at HX2
                  have hpl : (s.extract 0 pos).size = pos := by rw [← len_data, Lib.extract_data, List.length_take, List.drop_zero, len_data]; omega
                  have HPL := Lib.hid hpl
                  have HS2 := Lib.hid (show (s.extract (pos + 1) s.size).size = s.size - (pos + 1) by rw [← len_data, Lib.extract_data, List.length_take, List.length_drop, len_data]; omega)
                  clear hpl hR hK hF
                  go_wp2_with (first
                    | (go_at_call 35; refine CM.out.mono ?_; rintro e W1 ⟨rfl, hb1⟩; have HB1 := Lib.hid (HBW2.out.trans (hb1.mono HBW2.out.size)); have HBK3 := Lib.hid ((hb1.block _ (by omega)).trans HBK2.out); have HIT3 := Lib.hid ((hb1.block _ hltW).trans HIT2.out); have hlt1 : w.heap.size + 1 < W1.heap.size := (by have := hb1.size; omega); clear hb1)
                    | (go_at_call 50; refine (CD.out _ HB1.out).mono ?_; rintro e W2 ⟨rfl, hb2⟩; have HB1 := Lib.hid (HB1.out.trans (hb2.mono HB1.out.size)); have HBK3 := Lib.hid ((hb2.block _ (by omega)).trans HBK3.out); have HIT3 := Lib.hid ((hb2.block _ hlt1).trans HIT3.out); clear hb2)
                    | (go_at_call 52; refine (Tryd.Builder_Grow_fresh_cap w.heap.size w.heap.size (s.size + 4) _ (Nat.le_refl _) HBK3.out HB1.out.size (by omega)).mono ?_; rintro e W3 ⟨rfl, ⟨hb2, hbw⟩, hcap⟩; obtain ⟨g, cap, hcp, hbc⟩ := bldC_of hb2 hcap (by omega); have HBC := Lib.hid hbc; have HB2 := Lib.hid (HB1.out.trans hbw); clear hb2 hbw hcap hbc)
                    | (go_at_call 53; refine (bld_WriteString_room w.heap.size w.heap.size [] g cap (s.extract 0 pos) _ HBC.out (by rw [HPL.out]; simp; omega) HB2.out.size (by rw [HPL.out]; simp; omega)).mono ?_; rintro e W4 ⟨rfl, hbc3, hb3⟩; rw [List.nil_append] at hbc3; have HBC3 := Lib.hid hbc3; have hcl := hbc3.cell; have HB3 := Lib.hid (HB2.out.trans hb3); have hcp0 : ((cap : Int) == 0) = false := (by simp; omega); clear hb3 hbc3)
                    | (go_at_call 54; refine (bld_WriteRune w.heap.size w.heap.size (s.extract 0 pos).data.toList F _ HBC3.out.bld n0 n1 (by rw [len_data, HPL.out]; omega) HB3.out.size).mono ?_; rintro e W5 ⟨⟨v5, rfl⟩, hd5, hb5, _⟩; have HD5 := Lib.hid hd5; have HB5 := Lib.hid (HB3.out.trans hb5); clear hcl hcp0; obtain ⟨rp, rn, rcap, hcl, hrc⟩ := hd5.room (by rw [← List.length_pos_iff, List.length_append]; have := enc_pos F; omega); have hcp0 : ((rcap : Int) == 0) = false := (by simp; omega); clear hd5 hb5)
                    | fail)
                  go_meet
                  refine ⟨HB5.out, .inr ⟨_, _, _, _, _, rfl, by rw [HS2.out]; omega, HD5.out, hcl, by omega, HX2.out⟩⟩
              · have hKb : ((K : Int) == 1) = false := by simp; omega
                have hFb : (F == 65533) = false := by rcases hcase with h | h; exact absurd h hK1; exact h
                have HX2 := Lib.hid (map_split f s pos K ANS HSP.out hps hK.symm hfit.1)
                rw [hR, hF] at HX2
                rw [if_pos (by omega)] at HX2
                have hpl : (s.extract 0 pos).size = pos := by rw [← len_data, Lib.extract_data, List.length_take, List.drop_zero, len_data]; omega
                have HPL := Lib.hid hpl
                have HS2 := Lib.hid (show (s.extract (pos + K) s.size).size = s.size - (pos + K) by rw [← len_data, Lib.extract_data, List.length_take, List.length_drop, len_data]; omega)
                clear hpl hR hK hF
                go_wp2_with (first
                  | (go_at_call 35; refine CM.out.mono ?_; rintro e W1 ⟨rfl, hb1⟩; have HB1 := Lib.hid (HBW2.out.trans (hb1.mono HBW2.out.size)); have HBK3 := Lib.hid ((hb1.block _ (by omega)).trans HBK2.out); have HIT3 := Lib.hid ((hb1.block _ hltW).trans HIT2.out); have hlt1 : w.heap.size + 1 < W1.heap.size := (by have := hb1.size; omega); clear hb1)
                  | (go_at_call 50; refine (CD.out _ HB1.out).mono ?_; rintro e W2 ⟨rfl, hb2⟩; have HB1 := Lib.hid (HB1.out.trans (hb2.mono HB1.out.size)); have HBK3 := Lib.hid ((hb2.block _ (by omega)).trans HBK3.out); have HIT3 := Lib.hid ((hb2.block _ hlt1).trans HIT3.out); clear hb2)
                  | (go_at_call 52; refine (Tryd.Builder_Grow_fresh_cap w.heap.size w.heap.size (s.size + 4) _ (Nat.le_refl _) HBK3.out HB1.out.size (by omega)).mono ?_; rintro e W3 ⟨rfl, ⟨hb2, hbw⟩, hcap⟩; obtain ⟨g, cap, hcp, hbc⟩ := bldC_of hb2 hcap (by omega); have HBC := Lib.hid hbc; have HB2 := Lib.hid (HB1.out.trans hbw); clear hb2 hbw hcap hbc)
                  | (go_at_call 53; refine (bld_WriteString_room w.heap.size w.heap.size [] g cap (s.extract 0 pos) _ HBC.out (by rw [HPL.out]; simp; omega) HB2.out.size (by rw [HPL.out]; simp; omega)).mono ?_; rintro e W4 ⟨rfl, hbc3, hb3⟩; rw [List.nil_append] at hbc3; have HBC3 := Lib.hid hbc3; have hcl := hbc3.cell; have HB3 := Lib.hid (HB2.out.trans hb3); have hcp0 : ((cap : Int) == 0) = false := (by simp; omega); clear hb3 hbc3)
                  | (go_at_call 54; refine (bld_WriteRune w.heap.size w.heap.size (s.extract 0 pos).data.toList F _ HBC3.out.bld n0 n1 (by rw [len_data, HPL.out]; omega) HB3.out.size).mono ?_; rintro e W5 ⟨⟨v5, rfl⟩, hd5, hb5, _⟩; have HD5 := Lib.hid hd5; have HB5 := Lib.hid (HB3.out.trans hb5); clear hcl hcp0; obtain ⟨rp, rn, rcap, hcl, hrc⟩ := hd5.room (by rw [← List.length_pos_iff, List.length_append]; have := enc_pos F; omega); have hcp0 : ((rcap : Int) == 0) = false := (by simp; omega); clear hd5 hb5)
                  | fail)
                go_meet
                refine ⟨HB5.out, .inr ⟨_, _, _, _, _, rfl, by rw [HS2.out]; omega, HD5.out, hcl, by omega, HX2.out⟩⟩
        · have hRb : ((R : Int) == 65533) = false := by simp; omega
          have HRL := Lib.hid (HRL.out hR0)
          by_cases hkeep : F = (R : Int)
          · have hFb : (F == (R : Int)) = true := by simp [hkeep]
            have HN := Lib.hid (map_keep f s pos K ANS HSP.out hps hK.symm (by rw [hR, hF]; omega) (by rw [hR, hK]; omega))
            clear hR hK hF
            go_wp2_with (go_at_call 35; refine CM.out.mono ?_; rintro e W1 ⟨rfl, hb1⟩; have HB1 := Lib.hid (HBW2.out.trans (hb1.mono HBW2.out.size)); have HBK3 := Lib.hid ((hb1.block _ (by omega)).trans HBK2.out); have HIT3 := Lib.hid ((hb1.block _ hltW).trans HIT2.out); have hlt1 : w.heap.size + 1 < W1.heap.size := (by have := hb1.size; omega); clear hb1)
            go_roundg g'
            case measure => omega
            case rel => exact ⟨rfl, pos + K, HIT3.out, HBK3.out, HB1.out, HN.out, by omega, by omega⟩
          · have hFb : (F == (R : Int)) = false := by simp [hkeep]
            by_cases hneg : F < 0
            · skip
              have HX2 := Lib.hid (map_split f s pos K ANS HSP.out hps hK.symm hfit.1)
              rw [hR, hF] at HX2
              rw [if_neg (by omega), List.append_nil] at HX2
              have hpl : (s.extract 0 pos).size = pos := by rw [← len_data, Lib.extract_data, List.length_take, List.drop_zero, len_data]; omega
              have HPL := Lib.hid hpl
              have HS2 := Lib.hid (show (s.extract (pos + K) s.size).size = s.size - (pos + K) by rw [← len_data, Lib.extract_data, List.length_take, List.length_drop, len_data]; omega)
              clear hpl hR hK hF
              go_wp2_with (first
                | (go_at_call 35; refine CM.out.mono ?_; rintro e W1 ⟨rfl, hb1⟩; have HB1 := Lib.hid (HBW2.out.trans (hb1.mono HBW2.out.size)); have HBK3 := Lib.hid ((hb1.block _ (by omega)).trans HBK2.out); have HIT3 := Lib.hid ((hb1.block _ hltW).trans HIT2.out); have hlt1 : w.heap.size + 1 < W1.heap.size := (by have := hb1.size; omega); clear hb1)
                | (go_at_call 51; refine (Tryd.utf8_RuneLen _ _).mono ?_; rintro e W2 ⟨rfl, rfl⟩; rw [HRL.out])
                | (go_at_call 52; refine (Tryd.Builder_Grow_fresh_cap w.heap.size w.heap.size (s.size + 4) _ (Nat.le_refl _) HBK3.out HB1.out.size (by omega)).mono ?_; rintro e W3 ⟨rfl, ⟨hb2, hbw⟩, hcap⟩; obtain ⟨g, cap, hcp, hbc⟩ := bldC_of hb2 hcap (by omega); have HBC := Lib.hid hbc; have HB2 := Lib.hid (HB1.out.trans hbw); clear hb2 hbw hcap hbc)
                | (go_at_call 53; refine (bld_WriteString_room w.heap.size w.heap.size [] g cap (s.extract 0 pos) _ HBC.out (by rw [HPL.out]; simp; omega) HB2.out.size (by rw [HPL.out]; simp; omega)).mono ?_; rintro e W4 ⟨rfl, hbc3, hb3⟩; rw [List.nil_append] at hbc3; have HBC3 := Lib.hid hbc3; have hcl := hbc3.cell; have HB3 := Lib.hid (HB2.out.trans hb3); have hcp0 : ((cap : Int) == 0) = false := (by simp; omega); clear hb3 hbc3)
                | fail)
              go_meet
              refine ⟨HB3.out, .inr ⟨_, _, _, _, _, rfl, by rw [HS2.out]; omega, HBC3.out.bld, hcl, by omega, HX2.out⟩⟩
            · skip
              have HX2 := Lib.hid (map_split f s pos K ANS HSP.out hps hK.symm hfit.1)
              rw [hR, hF] at HX2
              rw [if_pos (by omega)] at HX2
              have hpl : (s.extract 0 pos).size = pos := by rw [← len_data, Lib.extract_data, List.length_take, List.drop_zero, len_data]; omega
              have HPL := Lib.hid hpl
              have HS2 := Lib.hid (show (s.extract (pos + K) s.size).size = s.size - (pos + K) by rw [← len_data, Lib.extract_data, List.length_take, List.length_drop, len_data]; omega)
              clear hpl hR hK hF
              go_wp2_with (first
                | (go_at_call 35; refine CM.out.mono ?_; rintro e W1 ⟨rfl, hb1⟩; have HB1 := Lib.hid (HBW2.out.trans (hb1.mono HBW2.out.size)); have HBK3 := Lib.hid ((hb1.block _ (by omega)).trans HBK2.out); have HIT3 := Lib.hid ((hb1.block _ hltW).trans HIT2.out); have hlt1 : w.heap.size + 1 < W1.heap.size := (by have := hb1.size; omega); clear hb1)
                | (go_at_call 51; refine (Tryd.utf8_RuneLen _ _).mono ?_; rintro e W2 ⟨rfl, rfl⟩; rw [HRL.out])
                | (go_at_call 52; refine (Tryd.Builder_Grow_fresh_cap w.heap.size w.heap.size (s.size + 4) _ (Nat.le_refl _) HBK3.out HB1.out.size (by omega)).mono ?_; rintro e W3 ⟨rfl, ⟨hb2, hbw⟩, hcap⟩; obtain ⟨g, cap, hcp, hbc⟩ := bldC_of hb2 hcap (by omega); have HBC := Lib.hid hbc; have HB2 := Lib.hid (HB1.out.trans hbw); clear hb2 hbw hcap hbc)
                | (go_at_call 53; refine (bld_WriteString_room w.heap.size w.heap.size [] g cap (s.extract 0 pos) _ HBC.out (by rw [HPL.out]; simp; omega) HB2.out.size (by rw [HPL.out]; simp; omega)).mono ?_; rintro e W4 ⟨rfl, hbc3, hb3⟩; rw [List.nil_append] at hbc3; have HBC3 := Lib.hid hbc3; have hcl := hbc3.cell; have HB3 := Lib.hid (HB2.out.trans hb3); have hcp0 : ((cap : Int) == 0) = false := (by simp; omega); clear hb3 hbc3)
                | (go_at_call 54; refine (bld_WriteRune w.heap.size w.heap.size (s.extract 0 pos).data.toList F _ HBC3.out.bld n0 n1 (by rw [len_data, HPL.out]; omega) HB3.out.size).mono ?_; rintro e W5 ⟨⟨v5, rfl⟩, hd5, hb5, _⟩; have HD5 := Lib.hid hd5; have HB5 := Lib.hid (HB3.out.trans hb5); clear hcl hcp0; obtain ⟨rp, rn, rcap, hcl, hrc⟩ := hd5.room (by rw [← List.length_pos_iff, List.length_append]; have := enc_pos F; omega); have hcp0 : ((rcap : Int) == 0) = false := (by simp; omega); clear hd5 hb5)
                | fail)
              go_meet
              refine ⟨HB5.out, .inr ⟨_, _, _, _, _, rfl, by rw [HS2.out]; omega, HD5.out, hcl, by omega, HX2.out⟩⟩
      · have hnx : ∀ ty, (Instr.next (.pointer (some ⟨w.heap.size + 1, 0, none⟩)) true ty).run Tryd.prog wr = _ := fun ty => Lib.run_next_end_at wr (w.heap.size + 1) s pos ty hit hps
        have HE := Lib.hid (show s.data.toList = ANS by
          have := HSP.out
          rw [drop_end s _ (by omega), Lib.mapD_nil, List.append_nil, List.take_of_length_le (by rw [len_data]; omega)] at this
          exact this)
        go_wp2_with fail
        go_meet
        exact ⟨HB.out, .inl ⟨rfl, HBK.out, HE.out⟩⟩
  case rest =>
    obtain ⟨HB5, hcut⟩ := hcut
    rcases hcut with ⟨rfl, HBK, HE⟩ | ⟨s2, done0, cp, cn, cap, rfl, hs2n, HBE, hcl, hcp, HX2⟩
    · have hcl : wc.cell? ⟨w.heap.size, 1, none⟩ = some (.slice none 0 0) := by rw [Lib.cell_of_heap HBK.out]; rfl
      go_wp2_with (go_at_call 55; refine (Tryd.Builder_Cap_cell w.heap.size none 0 0 _ hcl).mono ?_; rintro e W4 ⟨rfl, rfl⟩)
      go_ret
      exact ⟨ret_str (by rw [← HE.out]), HB5.out⟩
    · have hcp0 : ((cap : Int) == 0) = false := by simp; omega
      go_wp2_with (go_at_call 55; refine (Tryd.Builder_Cap_cell w.heap.size cp cn cap _ hcl).mono ?_; rintro e W4 ⟨rfl, rfl⟩)
      obtain ⟨it, hit0⟩ : ∃ it, it = W4.heap.size := ⟨_, rfl⟩
      rw [← hit0]
      have HI0 := Lib.hid hit0
      have hitle : w.heap.size < it := by rw [hit0]; exact (Array.getElem?_eq_some_iff.1 HBE.out.2.choose_spec.1).1
      have HIL := Lib.hid hitle
      obtain ⟨WE, hWE⟩ : ∃ WE, WE = W4 := ⟨_, rfl⟩
      subst hWE
      clear hit0 hitle hcl hcp0
      go_loopg [] s2.size (fun gf wx => LoopM f s2 ANS w it gf wx)
      case atStart =>
        have hba : Below WE.heap.size WE (WE.alloc (.stringIter s2 0)) := (Below.refl _ WE).alloc (Nat.le_refl _) _
        refine ⟨0, _, by rw [HI0.out]; exact World.iter_heap WE s2 0, HBE.out.kept hba, HB5.out.trans (hba.mono HB5.out.size), by rw [List.drop_zero]; exact HX2.out, by omega⟩
      case round =>
        obtain ⟨p2, done, hi2, HBd, HBr, HD, hf2⟩ := hrel
        have hdl : done.length ≤ 4398046511104 := by have := HAL.out; rw [← HD.out, List.length_append] at this; omega
        by_cases hp2 : p2 < s2.size
        · obtain ⟨g2, rfl⟩ : ∃ g2, gk = g2 + 1 := ⟨gk - 1, by omega⟩
          have hnx2 : ∀ ty, (Instr.next (.pointer (some ⟨it, 0, none⟩)) true ty).run Tryd.prog wr = _ := fun ty => Lib.run_next_any_at wr it s2 p2 ty hi2 hp2
          have hst := map_step f s2 p2 hp2
          have hrl := Lib.rune_le s2 p2
          obtain ⟨R2, hR2⟩ : ∃ R, (Utf8.decode s2 p2).1 = R := ⟨_, rfl⟩
          obtain ⟨K2, hK2⟩ : ∃ K, (Utf8.decode s2 p2).2 = K := ⟨_, rfl⟩
          have hwd2 := Lib.width_pos s2 p2
          rw [hR2, hK2] at hnx2 hst
          rw [hR2] at hrl
          rw [hK2] at hwd2
          have hj2 := Lib.iterAt_heap wr it s2 p2 (p2 + K2) hi2
          have hc2 := Lib.below_iterAt HBr.out (k := it) (Nat.le_of_lt HIL.out) s2 (p2 + K2)
          have hd2 := HBd.out.iterAt hi2 (p2 + K2)
          obtain ⟨Wa, hWa⟩ : ∃ W, wr.iterAt it s2 (p2 + K2) = W := ⟨_, rfl⟩
          rw [hWa] at hnx2 hj2 hc2 hd2
          have hltW : it < Wa.heap.size := (Array.getElem?_eq_some_iff.1 hj2).1
          have CM2 := Lib.hid (HP.out Wa R2 hrl hc2)
          obtain ⟨n0, n1⟩ := HNN.out R2 hrl
          obtain ⟨F2, hF2⟩ : ∃ F, f (R2 : Int) = F := ⟨_, rfl⟩
          rw [hF2] at CM2 n0 n1 hst
          have HD2 := Lib.hid (HD.out.symm.trans (congrArg (done ++ ·) hst)).symm
          have HJ2 := Lib.hid hj2; have HC2 := Lib.hid hc2; have HDD := Lib.hid hd2
          clear hst hj2 hc2 hd2 hWa hi2 HD
          by_cases hneg : F2 < 0
          · rw [if_neg (by omega), List.nil_append] at HD2
            go_wp2_with (go_at_call 35; refine CM2.out.mono ?_; rintro e Wb ⟨rfl, hb6⟩; have HB6 := Lib.hid (HC2.out.trans (hb6.mono HC2.out.size)); have HD6 := Lib.hid (HDD.out.kept hb6); have HJ6 := Lib.hid ((hb6.block _ hltW).trans HJ2.out); clear hb6)
            go_roundg g2
            case measure => omega
            case rel => exact ⟨p2 + K2, done, HJ6.out, HD6.out, HB6.out, HD2.out, by omega⟩
          · rw [if_pos (by omega), ← List.append_assoc] at HD2
            by_cases hasc : F2 < 128
            · obtain ⟨c, hc⟩ := byte_of F2 (by omega) hasc
              have hen := enc_byte hc.1 (by omega)
              rw [hen] at HD2
              have hcF := hc.1
              clear hc hen
              subst hcF
              go_wp2_with (first
                | (go_at_call 35; refine CM2.out.mono ?_; rintro e Wb ⟨rfl, hb6⟩; have HB6 := Lib.hid (HC2.out.trans (hb6.mono HC2.out.size)); have HD6 := Lib.hid (HDD.out.kept hb6); have HJ6 := Lib.hid ((hb6.block _ hltW).trans HJ2.out); have hlt6 : it < Wb.heap.size := (by have := hb6.size; omega); clear hb6)
                | (go_at_call 56; refine (bld_WriteByteI w.heap.size w.heap.size done c _ HD6.out (by omega) HB6.out.size).mono ?_; rintro e Wc ⟨rfl, hd7, hb7, hj7⟩; have HD7 := Lib.hid hd7; have HJ7 := Lib.hid (hj7 _ _ _ HJ6.out); have HB7 := Lib.hid (HB6.out.trans hb7); clear hd7 hj7 hb7))
              go_roundg g2
              case measure => omega
              case rel => exact ⟨p2 + K2, done ++ [c], HJ7.out, HD7.out, HB7.out, HD2.out, by omega⟩
            · go_wp2_with (first
                | (go_at_call 35; refine CM2.out.mono ?_; rintro e Wb ⟨rfl, hb6⟩; have HB6 := Lib.hid (HC2.out.trans (hb6.mono HC2.out.size)); have HD6 := Lib.hid (HDD.out.kept hb6); have HJ6 := Lib.hid ((hb6.block _ hltW).trans HJ2.out); clear hb6)
                | (go_at_call 54; refine (bld_WriteRune w.heap.size w.heap.size done F2 _ HD6.out n0 n1 (by omega) HB6.out.size).mono ?_; rintro e Wc ⟨⟨v7, rfl⟩, hd7, hb7, hj7⟩; have HD7 := Lib.hid hd7; have HJ7 := Lib.hid (hj7 _ _ _ HJ6.out); have HB7 := Lib.hid (HB6.out.trans hb7); clear hd7 hj7 hb7))
              go_roundg g2
              case measure => omega
              case rel => exact ⟨p2 + K2, done ++ Lib.encodeRune F2, HJ7.out, HD7.out, HB7.out, HD2.out, by omega⟩
        · have hnx2 : ∀ ty, (Instr.next (.pointer (some ⟨it, 0, none⟩)) true ty).run Tryd.prog wr = _ := fun ty => Lib.run_next_end_at wr it s2 p2 ty hi2 hp2
          have HE := Lib.hid (show done = ANS by have := HD.out; rw [drop_end s2 _ (by omega), Lib.mapD_nil, List.append_nil] at this; exact this)
          go_wp2_with (go_at_call 57; refine (Tryd.Builder_String_any w.heap.size w.heap.size done _ (.inr HBd.out) HBr.out.size).mono ?_; rintro e W6 ⟨rfl, hb6⟩)
          go_ret
          exact ⟨ret_str (by rw [HE.out]), HBr.out.trans hb6⟩
end Go.Proofs.YtlgibcphfmjddaaDoor
