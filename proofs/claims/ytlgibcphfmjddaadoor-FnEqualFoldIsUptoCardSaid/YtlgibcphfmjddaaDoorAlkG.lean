/-
  Contracts of the reference's folded, alike, Alike. Condition: the text is of at most 2^40 bytes.
-/
import Derived.Test.YtlgibcphfmjddaaDoorAlkF
import Derived.BigQuiet
namespace Go.Proofs.YtlgibcphfmjddaaDoor
open Go.Lib Go.RowKit
set_option linter.unusedVariables false

def natI (xs : List Nat) : List Int := xs.map (fun x : Nat => (x : Int))
/-- what the reference's folded returns -/
def Folded (s : ByteArray) (w : World) (e : Ending) (w' : World) : Prop :=
  (foldAll (rn s.data.toList) = none ∧ e = .returned (.tuple #[.slice none 0 0, .bool false]) ∧ Below w.heap.size w w') ∨
  ∃ fs a c, foldAll (rn s.data.toList) = some fs ∧ e = .returned (.tuple #[.slice a fs.length c, .bool true]) ∧ Lies w' w'.heap.size 1 a fs.length (ivals (natI fs)) ∧ Below w.heap.size w w'
theorem rn_pcs (l : List UInt8) : rn l = (pcs 0 l).map (fun p => p.r) := by unfold rn; rw [pcs_lay, lay_map_r]
theorem ivals_natI (fs : List Nat) (x : Nat) : ivals (natI (fs ++ [x])) = ivals (natI fs) ++ [.int .i32 (x : Int)] := by
  unfold ivals natI; simp
set_option maxRecDepth 100000 in
set_option maxHeartbeats 2000000 in
theorem spec_folded (s : ByteArray) (w : World) (hs : s.size ≤ 1099511627776) : Calls Tryd.prog 62 #[.string s] w (Folded s w) := by
  obtain ⟨i0, hi, hz0, hz1, hz2⟩ := info_parts Tryd.info32
  have HB0 := Lib.hid (show Below w.heap.size w (w.alloc (.cells #[] 21)) from (Below.refl _ w).alloc (Nat.le_refl _) _)
  go_enter Tryd.func62, Tryd.ntmps62
  go_wp2_with fail
  refine (spec_piecesOwn s hs _).mono ?_; rintro e w1 ⟨pa, pc, rfl, hpl, hb1⟩
  have hpn := pcs_len s.data.toList.length 0 s.data.toList (Nat.le_refl _)
  rw [len_data] at hpn
  have hrn := rn_pcs s.data.toList
  have hpr := pcs_r s.data.toList 0
  generalize pcs 0 s.data.toList = ps at *
  have HRN := Lib.hid hrn; have HPR := Lib.hid hpr
  have HP1 := Lib.hid (own_base hpl (show w.heap.size ≤ _ by simp))
  have hown : w1.ownsRow w.heap.size 21 1 (.slice (some ⟨w.heap.size, 0, none⟩) 0 0) 0 [] := by
    have h0 := World.ownsRow_lit (base := w.heap.size) (e := 21) (size := 1) w #[] 0 (Nat.le_refl _) (Nat.zero_le _) rfl
    have h1 := own_later h0 hb1
    simpa using h1
  have B1 := Lib.hid (HB0.out.trans (hb1.mono (by simp)))
  have HO1 := Lib.hid hown
  clear hpl hown hb1 hrn hpr
  go_wp2_with fail
  go_loopw [4, 6] (fun v vi wr => ∃ (k : Nat) (fs : List Nat), k ≤ ps.length ∧ vi = .int .i64 (k : Int) ∧ Hid (foldAll ((ps.take k).map (fun p => p.r)) = some fs) ∧ Hid (wr.ownsRow w.heap.size 21 1 v k (ivals (natI fs))) ∧ Hid (wr.ownsRow w.heap.size 70 4 (.slice pa ps.length pc) ps.length (pcells ps)) ∧ Hid (Below w.heap.size w wr)) (fun _ vi _ => ps.length - (intOf vi).toNat)
  case atStart => exact ⟨0, [], Nat.zero_le _, rfl, rfl, HO1.out, HP1.out, B1.out⟩
  case round =>
    clear HO1 B1 HP1 HB0
    obtain ⟨k, fs, hk, rfl, HFA, HO, HP, HB⟩ := hrel
    have hsz := HB.out.size
    by_cases hlt : k < ps.length
    · obtain ⟨g, o, hpa, hg, c0, c1, c2, c3⟩ := pcc (Lies.of_own HP.out) k hlt
      subst hpa
      have hsn := foldAll_snoc _ ps[k].r fs HFA.out
      have HTK := Lib.hid (show (ps.take (k + 1)).map (fun p => p.r) = (ps.take k).map (fun p => p.r) ++ [ps[k].r] by rw [List.take_succ_eq_append_getElem hlt, List.map_append]; rfl)
      have HDR := Lib.hid (show ps.map (fun p => p.r) = ((ps.take k).map (fun p => p.r) ++ [ps[k].r]) ++ (ps.drop (k + 1)).map (fun p => p.r) by rw [← HTK.out, ← List.map_append, List.take_append_drop])
      have hq := HPR.out ps[k] (List.getElem_mem hlt)
      clear c0 c1 c3
      generalize hpk : ps[k].r = q at *
      clear hpk
      have CF := Lib.hid (fun (W : World) => spec_Fold q hq W)
      cases hf : foldN q with
      | none =>
        rw [hf] at hsn
        have HN := Lib.hid (show foldAll (rn s.data.toList) = none by rw [HRN.out, HDR.out]; exact foldAll_none _ _ hsn)
        rw [show foldV q = .tuple #[.int .i32 0, .bool false] by unfold foldV; rw [hf]] at CF
        clear hf hsn
        go_wp2_with fail
        refine (CF.out _).mono ?_; rintro e w2 ⟨rfl, rfl⟩
        go_wp2_with fail
        go_ret2
        exact .inl ⟨HN.out, rfl, HB.out⟩
      | some x =>
        rw [hf] at hsn
        have HN := Lib.hid (show foldAll ((ps.take (k + 1)).map (fun p => p.r)) = some (fs ++ [x]) by rw [HTK.out]; exact hsn)
        have HIV := Lib.hid (ivals_natI fs x)
        rw [show foldV q = .tuple #[.int .i32 (x : Int), .bool true] by unfold foldV; rw [hf]] at CF
        clear hf hsn
        go_wp2_with (first
          | (go_at_call 73; refine (CF.out _).mono ?_; rintro e w2 ⟨rfl, rfl⟩)
          | (at_builtin; refine wpList_append_own _ rfl _ _ 33 rfl w.heap.size 21 i0 (.int .i32 0) 1 4 Tryd.underlying33 hi hz0 hz1 hz2 rfl (by decide) u4 k (ivals (natI fs)) rfl (HO.out.alloc _) ⟨_, 0, none⟩ 1 1 [.int .i32 (x : Int)] rfl rfl (cells_new _ [.int .i32 (x : Int)] _) (by simp [Value.oneCell']) (by unfold maxLen; omega) (by omega) (by simp; omega) ?_; intro v' w3 hown3 hgrow3 hnil3))
        have HO3 := Lib.hid (show w3.ownsRow w.heap.size 21 1 v' (k + 1) (ivals (natI (fs ++ [x]))) by rw [HIV.out]; exact hown3)
        have HB3 := Lib.hid ((HB.out.alloc hsz _).grown hgrow3 (by simp; omega) (fun q e => (HO.out.lt q e).1))
        have HP3 := Lib.hid ((HP.out.alloc (.cells #[.int .i32 (x : Int)] 21)).kept hgrow3 (own_apart (HP.out.alloc (.cells #[.int .i32 (x : Int)] 21)) (HO.out.alloc (.cells #[.int .i32 (x : Int)] 21)) (by decide)))
        clear hown3 hgrow3 hnil3
        go_wp2_with fail
        exact ⟨⟨k + 1, fs ++ [x], by omega, by go_num, HN.out, HO3.out, HP3.out, HB3.out⟩, by simp [intOf]; omega⟩
    · obtain rfl : k = ps.length := by omega
      have hfa := HFA.out
      rw [List.take_length, ← HRN.out] at hfa
      have hfl := foldAll_len _ _ hfa
      rw [HRN.out, List.length_map] at hfl
      obtain ⟨a, c, rfl⟩ := own_slice HO.out
      have HL := Lib.hid (Lies.of_own HO.out)
      have HFL := Lib.hid hfl; have HFB := Lib.hid hfa
      clear hfa hfl HO
      go_wp2_with fail
      go_ret2
      exact .inr ⟨fs, a, c, HFB.out, by rw [HFL.out]; rfl, by rw [HFL.out]; exact HL.out, HB.out⟩
/-- what the reference's alike returns -/
def alikeV (l m : List UInt8) : Value := match foldAll (rn l), foldAll (rn m) with
  | some fs, some gs => .tuple #[.bool (decide (fs = gs)), .bool true]
  | _, _ => .tuple #[.bool false, .bool false]
theorem nat_cell {w : World} {B n : Nat} {a : Option Addr} {xs : List Nat} (h : Lies w B 1 a n (ivals (natI xs))) (k : Nat) (hk : k < xs.length) :
    ∃ g o, a = some ⟨g, o, none⟩ ∧ g < B ∧ w.cell? ⟨g, o + k, none⟩ = some (.int .i32 ((xs[k] : Nat) : Int)) := by
  obtain ⟨g, o, e, hg, hc⟩ := int_cell h k (by simpa [natI] using hk)
  exact ⟨g, o, e, hg, by rw [hc]; simp [natI]⟩
set_option maxRecDepth 100000 in
set_option maxHeartbeats 2000000 in
theorem spec_alike (s t : ByteArray) (w : World) (hs : s.size ≤ 1099511627776) (ht : t.size ≤ 1099511627776) :
    Calls Tryd.prog 45 #[.string s, .string t] w fun e w' => e = .returned (alikeV s.data.toList t.data.toList) ∧ Below w.heap.size w w' := by
  have C1 := Lib.hid (fun (W : World) => spec_folded s W hs)
  have C2 := Lib.hid (fun (W : World) => spec_folded t W ht)
  have hbig := foldAll_len (rn s.data.toList)
  have hrl : (rn s.data.toList).length ≤ s.size := by
    have := chs_len s.data.toList
    unfold rn; rw [List.length_map]; rw [len_data] at this; exact this
  go_enter Tryd.func45, Tryd.ntmps45
  go_wp2_with fail
  refine (C1.out _).mono ?_; rintro e w1 (⟨hn1, rfl, hb1⟩ | ⟨fs, a, c, hn1, rfl, hl1, hb1⟩)
  · have B1 := Lib.hid hb1; have HN1 := Lib.hid hn1; clear hb1 hn1 hbig
    go_wp2_with fail
    refine (C2.out _).mono ?_; rintro e w2 (⟨hn2, rfl, hb2⟩ | ⟨gs, b, d, hn2, rfl, hl2, hb2⟩)
    · have B2 := Lib.hid (B1.out.trans (hb2.mono B1.out.size)); clear hb2 hn2
      go_wp2_with fail
      go_ret2
      exact ⟨by unfold alikeV; rw [HN1.out]; rfl, B2.out⟩
    · have B2 := Lib.hid (B1.out.trans (hb2.mono B1.out.size)); clear hb2 hn2 hl2
      go_wp2_with fail
      go_ret2
      exact ⟨by unfold alikeV; rw [HN1.out]; rfl, B2.out⟩
  · have B1 := Lib.hid hb1; have HN1 := Lib.hid hn1; have L1 := Lib.hid hl1
    have hfl := hbig fs hn1
    clear hb1 hn1 hl1 hbig
    go_wp2_with fail
    refine (C2.out _).mono ?_; rintro e w2 (⟨hn2, rfl, hb2⟩ | ⟨gs, b, d, hn2, rfl, hl2, hb2⟩)
    · have B2 := Lib.hid (B1.out.trans (hb2.mono B1.out.size)); have HN2 := Lib.hid hn2; clear hb2 hn2
      go_wp2_with fail
      go_ret2
      exact ⟨by unfold alikeV; rw [HN1.out, HN2.out]; rfl, B2.out⟩
    · have B2 := Lib.hid (B1.out.trans (hb2.mono B1.out.size)); have HN2 := Lib.hid hn2; have L2 := Lib.hid hl2; have LA := Lib.hid (L1.out.later hb2); clear hb2 hn2 hl2 L1
      have HV := Lib.hid (show alikeV s.data.toList t.data.toList = .tuple #[.bool (decide (fs = gs)), .bool true] by unfold alikeV; rw [HN1.out, HN2.out])
      clear HN1 HN2
      by_cases hlen : fs.length = gs.length
      · have hl0 : ((fs.length : Int) == (gs.length : Int)) = true := beq_iff_eq.2 (by omega)
        have hl0' : ((fs.length : Int) != (gs.length : Int)) = false := by simp [hlen]
        go_wp2_with fail
        go_loopw [10] (fun vi wr => ∃ k : Nat, k ≤ fs.length ∧ vi = .int .i64 (k : Int) ∧ Hid (fs.take k = gs.take k) ∧ Hid (Below w2.heap.size w2 wr)) (fun vi _ => fs.length - (intOf vi).toNat)
        case atStart => exact ⟨0, Nat.zero_le _, rfl, rfl, Below.refl _ _⟩
        case round =>
          obtain ⟨k, hk, rfl, HTK, HB⟩ := hrel
          by_cases hlt : k < fs.length
          · obtain ⟨g, o, rfl, hg, c1⟩ := nat_cell (LA.out.later HB.out) k hlt
            obtain ⟨g', o', rfl, hg', c2⟩ := nat_cell (L2.out.later HB.out) k (by omega)
            have HSS := Lib.hid (show fs[k] = gs[k]'(by omega) → fs.take (k + 1) = gs.take (k + 1) from fun h => by rw [List.take_succ_eq_append_getElem hlt, List.take_succ_eq_append_getElem (by omega : k < gs.length), HTK.out, h])
            have HNE := Lib.hid (show fs[k] ≠ gs[k]'(by omega) → fs ≠ gs from fun h e => h (by subst e; rfl))
            have HB2 := Lib.hid (fun (q : Nat) => (HB.out.trans ⟨rfl, rfl, rfl, Nat.le_refl _, fun _ _ => rfl⟩ : Below w2.heap.size w2 (wr.drewN q)))
            generalize fs[k] = x at *
            generalize gs[k]'(by omega) = y at *
            by_cases hxy : x = y
            · have HS2 := Lib.hid (HSS.out hxy)
              subst hxy
              clear HSS HNE
              go_wp2
              go_quiet (fail)
              go_wp2
              go_roundw
              case rel => exact ⟨k + 1, by omega, by go_num, HS2.out, HB2.out _⟩
              case measure => simp [intOf]; omega
            · have HD := Lib.hid (HNE.out hxy)
              have e1 : ((x : Int) == (y : Int)) = false := beq_eq_false_iff_ne.2 (by omega)
              have e2 : ((x : Int) != (y : Int)) = true := bne_iff_ne.2 (by omega)
              clear HSS HNE
              go_wp2
              go_quiet (fail)
              go_wp2
              go_ret2
              exact ⟨by rw [HV.out]; simp [HD.out], B2.out.trans ((HB2.out _).mono B2.out.size)⟩
          · have HD := Lib.hid (show fs = gs by
              have := HTK.out
              rwa [List.take_of_length_le (by omega), List.take_of_length_le (by omega)] at this)
            go_wp2
            go_ret2
            exact ⟨by rw [HV.out]; simp [HD.out], B2.out.trans (HB.out.mono B2.out.size)⟩
      · have hl0 : ((fs.length : Int) == (gs.length : Int)) = false := beq_eq_false_iff_ne.2 (by omega)
        have hl0' : ((fs.length : Int) != (gs.length : Int)) = true := bne_iff_ne.2 (by omega)
        have HD := Lib.hid (show fs ≠ gs from fun e => hlen (by rw [e]))
        go_wp2_with fail
        go_ret2
        exact ⟨by rw [HV.out]; simp [HD.out], B2.out⟩
theorem spec_Alike (s t : ByteArray) (w : World) (hs : s.size ≤ 1099511627776) (ht : t.size ≤ 1099511627776) :
    Calls Tryd.prog 29 #[.string s, .string t] w fun e w' => e = .returned (alikeV s.data.toList t.data.toList) ∧ Below w.heap.size w w' := by
  have C := Lib.hid (spec_alike s t w hs ht)
  obtain ⟨a, b, hab⟩ : ∃ a b, alikeV s.data.toList t.data.toList = .tuple #[.bool a, .bool b] := by
    unfold alikeV; split
    · exact ⟨_, _, rfl⟩
    · exact ⟨_, _, rfl⟩
  rw [hab] at C
  rw [hab]
  clear hab
  go_enter Tryd.func29, Tryd.ntmps29
  go_wp2_with fail
  refine C.out.mono ?_; rintro e w1 ⟨rfl, hb1⟩
  go_wp2_with fail
  go_ret2
  exact ⟨rfl, hb1⟩
end Go.Proofs.YtlgibcphfmjddaaDoor
