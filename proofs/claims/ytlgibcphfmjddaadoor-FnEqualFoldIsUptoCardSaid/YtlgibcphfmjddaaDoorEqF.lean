/-
  The contract of strings.EqualFold. Conditions: the tables of unicode and unicode/utf8 are in memory.
-/
import Derived.Test.YtlgibcphfmjddaaDoorEqP
import Derived.Test.YtlgibcphfmjddaaDoorSFold
import Derived.WalkMore
import Derived.ScopeJumps
import Derived.Deep.LoopGhost
import Derived.Laws.Strings3
namespace Go.Proofs.YtlgibcphfmjddaaDoor
open Go.Lib Go.RowKit
set_option linter.unusedVariables false

/-- what a slot of a frame holds -/
def slot (a : Act) (n : Nat) : Value := a.tmps.getD n undef
theorem jump_ret {l : Nat} {J : Act → World → Prop} {Q : Exit → Act → World → Prop} {a : Act} {w : World} : Exit.jump l J Q .ret a w = Q .ret a w := rfl
theorem jump_exit {l : Nat} {J : Act → World → Prop} {Q : Exit → Act → World → Prop} {a : Act} {w : World} (i : Nat) : Exit.jump l J Q (.exit i) a w = Q (.exit i) a w := rfl
theorem jump_normal {l : Nat} {J : Act → World → Prop} {Q : Exit → Act → World → Prop} {a : Act} {w : World} : Exit.jump l J Q .normal a w = Q .normal a w := rfl
attribute [local go_sem] jump_ret jump_exit jump_normal
theorem asc_pair {a b : Nat} (ha : a < 128) (hb : b < 128) : eqR a b = true ↔ (a = b ∨ (a < b ∧ 65 ≤ a ∧ a ≤ 90 ∧ b = a + 32) ∨ (b < a ∧ 65 ≤ b ∧ b ≤ 90 ∧ a = b + 32)) := by
  rcases Nat.lt_trichotomy a b with h | h | h
  · rw [asc_alike h hb]; simp only [Bool.and_eq_true, decide_eq_true_eq]; omega
  · subst h; rw [eqR_refl]; simp
  · rw [eqR_symm, asc_alike h ha]; simp only [Bool.and_eq_true, decide_eq_true_eq]; omega
theorem ext_all (s : ByteArray) : s.extract 0 s.size = s := by
  apply ByteArray.ext
  rw [← Array.toList_inj, Lib.extract_data, List.drop_zero, List.take_of_length_le (by rw [len_data]; omega)]
theorem ext_data (s : ByteArray) (k : Nat) (h : k ≤ s.size) : (s.extract k s.size).data.toList = s.data.toList.drop k := by
  rw [Lib.extract_data, List.take_of_length_le (by rw [List.length_drop, len_data]; omega)]
theorem dgo (T : ByteArray) (h : 0 < T.size) : Lib.decodeGoB T = Utf8.decode T 0 := by
  have := decodeGo_at T 0 h
  rwa [ext_all] at this
set_option maxRecDepth 100000 in
set_option maxHeartbeats 8000000 in
theorem lib_EqualFold (s t : ByteArray) (w : World) (hs : s.size ≤ 140737488351232) (ht : t.size ≤ 140737488351232) (hT : Tabs w) (hF : Folds w) :
    Calls Tryd.prog 46 #[.string s, .string t] w fun e w' => e = .returned (.bool (eqF s.data.toList t.data.toList)) ∧ Below w.heap.size w w' := by
  obtain ⟨M, hM⟩ : ∃ M : Nat, min (s.size : Int) (t.size : Int) = (M : Int) := ⟨min s.size t.size, by omega⟩
  have hMs : M ≤ s.size := by omega
  have hMt : M ≤ t.size := by omega
  have hMe : M = s.size ∨ M = t.size := by omega
  have HT := Lib.hid hT; have HF := Lib.hid hF
  have CS := Lib.hid (fun (r : Nat) (hr : r ≤ 1114111) (W : World) (hb : Below w.heap.size w W) => unicode_SimpleFold r hr W (HF.out.below hb))
  obtain ⟨ANS, hANS⟩ : ∃ A, eqF s.data.toList t.data.toList = A := ⟨_, rfl⟩
  rw [hANS]
  have HANS := Lib.hid hANS
  clear hT hF hANS
  go_enter Tryd.func46, Tryd.ntmps46
  obtain ⟨J, hJ⟩ : ∃ J : Act → World → Prop, J = (fun a' w' => w = w' ∧ ∃ (k : Nat), a' = { tmps := #[.string s, .string t, slot a' 2, slot a' 3, slot a' 4, .int .i64 (k : Int), slot a' 6, slot a' 7, slot a' 8, slot a' 9, slot a' 10, slot a' 11, slot a' 12, slot a' 13, slot a' 14, slot a' 15, slot a' 16, slot a' 17, slot a' 18, slot a' 19, slot a' 20, slot a' 21, slot a' 22, slot a' 23, slot a' 24, slot a' 25, slot a' 26, slot a' 27, slot a' 28, slot a' 29, slot a' 30, slot a' 31, slot a' 32, slot a' 33, slot a' 34, slot a' 35, slot a' 36, slot a' 37, slot a' 38, slot a' 39, slot a' 40, slot a' 41, slot a' 42, slot a' 43, slot a' 44, slot a' 45, slot a' 46, slot a' 47, slot a' 48, slot a' 49, slot a' 50, slot a' 51, slot a' 52, slot a' 53, slot a' 54, slot a' 55, slot a' 56, slot a' 57, slot a' 58, slot a' 59, slot a' 60, slot a' 61, slot a' 62, slot a' 63, slot a' 64, slot a' 65, slot a' 66, slot a' 67, slot a' 68, slot a' 69, slot a' 70, slot a' 71, slot a' 72, slot a' 73, slot a' 74, slot a' 75, slot a' 76, slot a' 77, slot a' 78, slot a' 79, slot a' 80, slot a' 81, slot a' 82, slot a' 83, slot a' 84, slot a' 85, slot a' 86, slot a' 87, slot a' 88, slot a' 89, slot a' 90, slot a' 91, slot a' 92, slot a' 93, slot a' 94, slot a' 95, slot a' 96, slot a' 97, slot a' 98, slot a' 99, slot a' 100, slot a' 101, slot a' 102, slot a' 103, slot a' 104, slot a' 105, slot a' 106, slot a' 107, slot a' 108, slot a' 109, slot a' 110, slot a' 111, slot a' 112, slot a' 113, slot a' 114, slot a' 115, slot a' 116, slot a' 117, slot a' 118, slot a' 119, slot a' 120, slot a' 121, slot a' 122], defers := [] } ∧ k ≤ s.size ∧ k ≤ t.size ∧ Hid (eqF (s.data.toList.drop k) (t.data.toList.drop k) = ANS)) := ⟨_, rfl⟩
  have HJ := Lib.hid hJ; clear hJ
  go_wp2
  refine wp_scope_jumps 0 J (fun _ _ => 0) rfl ?first ?pass
  case first =>
    go_wp2
    go_loopg [5] M (fun g s5 wx => w = wx ∧ ∃ i : Nat, i + g = M ∧ s5 = .int .i64 (i : Int) ∧ Hid (eqF (s.data.toList.drop i) (t.data.toList.drop i) = ANS))
    case atStart => exact ⟨rfl, 0, by omega, rfl, HANS.out⟩
    case round =>
      obtain ⟨rfl, i, hig, rfl, HI⟩ := hrel
      clear hM HANS
      cases gk with
      | zero =>
        have hiM : ¬ ((i : Int) < (M : Int)) := by omega
        obtain rfl : i = M := by omega
        by_cases hst : s.size = t.size
        · have hb : ((s.size : Int) == (t.size : Int)) = true := beq_iff_eq.2 (by omega)
          have HE := Lib.hid (show ANS = true by rw [← HI.out, drop_end s _ (by omega), drop_end t _ (by omega)]; rfl)
          go_wp2
          try rw [jump_ret]
          go_ret
          exact ⟨by rw [HE.out]; rfl, Below.refl _ _⟩
        · have hb : ((s.size : Int) == (t.size : Int)) = false := beq_eq_false_iff_ne.2 (by omega)
          have HE := Lib.hid (show ANS = false by
            rw [← HI.out]
            rcases hMe with h | h
            · rw [drop_end s _ (by omega)]; exact eqF_nil_cons (ne_drop (by omega))
            · rw [drop_end t _ (by omega)]; exact eqF_cons_nil (ne_drop (by omega)))
          go_wp2
          try rw [jump_ret]
          go_ret
          exact ⟨by rw [HE.out]; rfl, Below.refl _ _⟩
      | succ g =>
        have hiM : (i : Int) < (M : Int) := by omega
        have hisz : (i : Int) < (s.size : Int) := by omega
        have hitz : (i : Int) < (t.size : Int) := by omega
        have HRA := Lib.hid (fun (h : (s[i]'(by omega)).toNat < 128) => rn_ascii s i (by omega) h)
        have HRB := Lib.hid (fun (h : (t[i]'(by omega)).toNat < 128) => rn_ascii t i (by omega) h)
        obtain ⟨x, hx⟩ : ∃ x : UInt8, s[i]'(by omega) = x := ⟨_, rfl⟩
        obtain ⟨y, hy⟩ : ∃ y : UInt8, t[i]'(by omega) = y := ⟨_, rfl⟩
        rw [hx] at HRA
        rw [hy] at HRB
        have hx256 : x.toNat < 256 := x.toNat_lt
        have hy256 : y.toNat < 256 := y.toNat_lt
        have hor : bits .or .u8 (x.toNat : Int) (y.toNat : Int) = ((x.toNat ||| y.toNat : Nat) : Int) := u8_or_nat _ _ (by omega) (by omega)
        by_cases hasc : x.toNat < 128 ∧ y.toNat < 128
        · obtain ⟨hx128, hy128⟩ := hasc
          have hor128 : ¬ ((128 : Int) ≤ ((x.toNat ||| y.toNat : Nat) : Int)) := by have := Nat.or_lt_two_pow (n := 7) hx128 hy128; omega
          have HST := Lib.hid (show (eqR x.toNat y.toNat && eqF (s.data.toList.drop (i + 1)) (t.data.toList.drop (i + 1))) = ANS by rw [← HI.out]; unfold eqF; rw [HRA.out hx128, HRB.out hy128]; rfl)
          have HP := Lib.hid (asc_pair hx128 hy128)
          clear HRA HRB HI
          go_wp2
          all_goals (try simp only [beq_iff_eq, beq_eq_false_iff_ne, ne_eq] at *)
          all_goals first
            | (have HEQ : eqR x.toNat y.toNat = true := HP.out.2 (by omega)
               go_roundg g
               case measure => omega
               case rel => exact ⟨rfl, i + 1, by omega, by first | rfl | simp, by have := HST.out; rw [HEQ, Bool.true_and] at this; exact this⟩)
            | (have HEQ : eqR x.toNat y.toNat = false := (by rw [Bool.eq_false_iff]; intro h; have := HP.out.1 h; omega)
               try rw [jump_ret]
               go_ret
               exact ⟨by have := HST.out; rw [HEQ, Bool.false_and] at this; rw [← this]; rfl, Below.refl _ _⟩)
        · have hor128 : (128 : Int) ≤ ((x.toNat ||| y.toNat : Nat) : Int) := by
            have h1 : x.toNat ≤ x.toNat ||| y.toNat := Nat.left_le_or
            have h2 : y.toNat ≤ x.toNat ||| y.toNat := Nat.right_le_or
            omega
          clear HRA HRB
          go_wp2
          go_step3
          refine ⟨rfl, ?_⟩
          rw [HJ.out]
          exact ⟨rfl, i, rfl, by omega, by omega, HI.out⟩
  case pass =>
    intro a' w' hjj
    rw [HJ.out] at hjj
    obtain ⟨rfl, k, ha, hk1, hk2, HI⟩ := hjj
    clear HJ
    generalize slot a' = U at ha
    subst ha
    clear hM hMs hMt hMe HANS M
    have hk1' : (k : Int) ≤ (s.size : Int) := by omega
    have hk2' : (k : Int) ≤ (t.size : Int) := by omega
    obtain ⟨S, hS⟩ : ∃ S, s.extract k s.size = S := ⟨_, rfl⟩
    obtain ⟨T0, hT0⟩ : ∃ T, t.extract k t.size = T := ⟨_, rfl⟩
    have hSd : S.data.toList = s.data.toList.drop k := by rw [← hS]; exact ext_data s k hk1
    have hTd : T0.data.toList = t.data.toList.drop k := by rw [← hT0]; exact ext_data t k hk2
    have HI2 := Lib.hid (show eqF (S.data.toList.drop 0) T0.data.toList = ANS by rw [List.drop_zero, hSd, hTd]; exact HI.out)
    have hSs : S.size ≤ 140737488351232 := by rw [← len_data, hSd, List.length_drop, len_data]; omega
    have hTs : T0.size ≤ 140737488351232 := by rw [← len_data, hTd, List.length_drop, len_data]; omega
    have HBA := Lib.hid ((Below.refl w.heap.size w).alloc (Nat.le_refl _) (.stringIter S 0))
    have HIA := Lib.hid (World.iter_heap w S 0)
    clear hSd hTd HI
    go_wp2
    clear hS hT0
    go_loopg [1] S.size (fun gf v1 wx => ∃ (p : Nat) (T : ByteArray), v1 = .string T ∧ Hid (wx.heap[w.heap.size]? = some (.stringIter S p)) ∧ Hid (Below w.heap.size w wx) ∧ T.size ≤ 140737488351232 ∧ Hid (eqF (S.data.toList.drop p) T.data.toList = ANS) ∧ S.size ≤ p + gf)
    case atStart => exact ⟨0, T0, rfl, HIA.out, HBA.out, hTs, HI2.out, by omega⟩
    case round =>
      clear HI2 HBA HIA hTs
      obtain ⟨p, T, rfl, HIT, HBr, hTs, HE, hf2⟩ := hrel
      by_cases hp2 : p < S.size
      · obtain ⟨g2, rfl⟩ : ∃ g2, gk = g2 + 1 := ⟨gk - 1, by omega⟩
        have hi2 := HIT.out
        have hnx2 : ∀ ty, (Instr.next (.pointer (some ⟨w.heap.size, 0, none⟩)) true ty).run Tryd.prog wr = _ := fun ty => Lib.run_next_any_at wr w.heap.size S p ty hi2 hp2
        have hst := rn_at S p hp2
        have hrl := Lib.rune_le S p
        have hfit := (dec_fit S p hp2).1
        obtain ⟨R2, hR2⟩ : ∃ R, (Utf8.decode S p).1 = R := ⟨_, rfl⟩
        obtain ⟨K2, hK2⟩ : ∃ K, (Utf8.decode S p).2 = K := ⟨_, rfl⟩
        have hwd2 := Lib.width_pos S p
        rw [hR2, hK2] at hnx2 hst
        rw [hR2] at hrl
        rw [hK2] at hwd2 hfit
        have hj2 := Lib.iterAt_heap wr w.heap.size S p (p + K2) hi2
        have hc2 := Lib.below_iterAt HBr.out (k := w.heap.size) (Nat.le_refl _) S (p + K2)
        obtain ⟨Wa, hWa⟩ : ∃ W, wr.iterAt w.heap.size S (p + K2) = W := ⟨_, rfl⟩
        rw [hWa] at hnx2 hj2 hc2
        have hltW : w.heap.size < Wa.heap.size := (Array.getElem?_eq_some_iff.1 hj2).1
        have HJ2 := Lib.hid hj2; have HC2 := Lib.hid hc2; have HRN := Lib.hid hst
        clear hst hj2 hc2 hWa hi2 HIT HBr hR2 hK2
        by_cases hT0 : T.size = 0
        · have hb : ((T.size : Int) == 0) = true := beq_iff_eq.2 (by omega)
          have HN := Lib.hid (show ANS = false by
            rw [← HE.out, show T.data.toList = [] from List.length_eq_zero_iff.1 (by rw [len_data]; exact hT0)]
            exact eqF_cons_nil (ne_drop hp2))
          go_wp2
          try rw [jump_ret]
          go_ret
          exact ⟨by rw [HN.out]; rfl, HC2.out⟩
        · have hb : ((T.size : Int) == 0) = false := beq_eq_false_iff_ne.2 (by omega)
          have hTp : 0 < T.size := by omega
          have CD0 := fun (W : World) (hb : Below w.heap.size w W) => Tryd.utf8_DecodeRuneInString T W (HT.out.below hb)
          have CD := Lib.hid (fun (W : World) (hb : Below w.heap.size w W) => (show Calls Tryd.prog 50 #[.string T] W (fun e w' => e = .returned (.tuple #[.int .i32 ((Lib.decodeGoB T).1 : Int), .int .i64 ((Lib.decodeGoB T).2 : Int)]) ∧ Below W.heap.size W w') from CD0 W hb))
          rw [dgo T hTp] at CD
          clear CD0
          have hst3 := rn_at T 0 hTp
          have hrl3 := Lib.rune_le T 0
          have hfit3 := (dec_fit T 0 hTp).1
          have hwd3 := Lib.width_pos T 0
          obtain ⟨R3, hR3⟩ : ∃ R, (Utf8.decode T 0).1 = R := ⟨_, rfl⟩
          obtain ⟨K3, hK3⟩ : ∃ K, (Utf8.decode T 0).2 = K := ⟨_, rfl⟩
          rw [hR3, hK3, List.drop_zero, Nat.zero_add] at hst3
          rw [hR3] at hrl3
          rw [hK3] at hwd3 hfit3
          rw [hR3, hK3] at CD
          clear hR3 hK3
          have hK3' : (K3 : Int) ≤ (T.size : Int) := by omega
          obtain ⟨T2, hT2⟩ : ∃ T2, T.extract K3 T.size = T2 := ⟨_, rfl⟩
          have hT2d : T2.data.toList = T.data.toList.drop K3 := by rw [← hT2]; exact ext_data T K3 (by omega)
          have hT2s : T2.size ≤ 140737488351232 := by rw [← len_data, hT2d, List.length_drop, len_data]; omega
          have HST := Lib.hid (show ANS = (eqR R2 R3 && eqF (S.data.toList.drop (p + K2)) T2.data.toList) by rw [← HE.out, hT2d]; unfold eqF; rw [HRN.out, hst3]; rfl)
          clear hst3 hT2d HE HRN
          rcases Nat.lt_trichotomy R3 R2 with hlt | heq | hlt
          · have hEQ := Lib.hid (show eqR R2 R3 = eqR R3 R2 from eqR_symm _ _)
            rw [hEQ.out] at HST
            have hne : ((R3 : Int) == (R2 : Int)) = false := beq_eq_false_iff_ne.2 (by omega)
            by_cases h128 : R2 < 128
            · have hasc := Lib.hid (asc_alike hlt h128)
              go_wp2_with (go_at_call 50; refine (CD.out _ HC2.out).mono ?_; rintro e Wb ⟨rfl, hb6⟩; have HB6 := Lib.hid (HC2.out.trans (hb6.mono HC2.out.size)); have HJ6 := Lib.hid ((hb6.block _ hltW).trans HJ2.out); have hlt6 : w.heap.size < Wb.heap.size := (by have := hb6.size; omega); clear hb6)
              all_goals (try simp only [beq_iff_eq, beq_eq_false_iff_ne, ne_eq] at *)
              all_goals first
                | (have HEQ : eqR R3 R2 = true := (by rw [hasc.out]; simp only [Bool.and_eq_true, decide_eq_true_eq]; omega)
                   go_roundg g2
                   case measure => omega
                   case rel => exact ⟨p + K2, T2, rfl, HJ6.out, HB6.out, by omega, by have := HST.out; rw [HEQ, Bool.true_and] at this; exact this.symm, by omega⟩)
                | (have HEQ : eqR R3 R2 = false := (by rw [hasc.out]; simp only [Bool.and_eq_false_iff, decide_eq_false_iff_not]; omega)
                   try rw [jump_ret]
                   go_ret
                   exact ⟨by have := HST.out; rw [HEQ, Bool.false_and] at this; rw [this]; rfl, HB6.out⟩)
            · have HLO := Lib.hid (show R3 ≤ 1114111 by omega)
              go_wp2_with (first | (go_at_call 50; refine (CD.out _ HC2.out).mono ?_; rintro e Wb ⟨rfl, hb6⟩; have HB6 := Lib.hid (HC2.out.trans (hb6.mono HC2.out.size)); have HJ6 := Lib.hid ((hb6.block _ hltW).trans HJ2.out); have hlt6 : w.heap.size < Wb.heap.size := (by have := hb6.size; omega); clear hb6) | (go_at_call 63; refine (CS.out R3 HLO.out _ HB6.out).mono ?_; rintro e Wc ⟨rfl, hb7⟩; have HB7 := Lib.hid (HB6.out.trans (hb7.mono HB6.out.size)); have HJ7 := Lib.hid ((hb7.block _ hlt6).trans HJ6.out); clear hb7))
              go_loopg [13] 4 (fun gf v wx => ∃ j r : Nat, v = .int .i32 (r : Int) ∧ gf + j = 5 ∧ Hid (Turn R3 R2 j r) ∧ Hid (Below w.heap.size w wx) ∧ Hid (wx.heap[w.heap.size]? = some (.stringIter S (p + K2))))
              case atStart => exact ⟨1, nx R3, rfl, rfl, Turn.first _ _, HB7.out, HJ7.out⟩
              case round =>
                clear HB7 HJ7 HB6 HJ6 hlt6
                obtain ⟨j, r, rfl, hgj, HTU, HB8, HJ8⟩ := hrel
                by_cases e1 : r = R3
                · have HEQ : eqR R3 R2 = false := HTU.out.back hlt e1
                  have b1 : ((r : Int) == (R3 : Int)) = true := beq_iff_eq.2 (by omega)
                  have b2 : ((r : Int) == (R2 : Int)) = false := beq_eq_false_iff_ne.2 (by omega)
                  clear hne
                  go_wp2_with fail
                  try rw [jump_ret]
                  go_ret
                  exact ⟨by have := HST.out; rw [HEQ, Bool.false_and] at this; rw [this]; rfl, HB8.out⟩
                · have b1 : ((r : Int) == (R3 : Int)) = false := beq_eq_false_iff_ne.2 (by omega)
                  by_cases e2 : r < R2
                  · obtain ⟨hnext, hj4⟩ := HTU.out.next e1 e2
                    obtain ⟨g3, rfl⟩ : ∃ g3, gk = g3 + 1 := ⟨gk - 1, by omega⟩
                    have HNX := Lib.hid hnext
                    have HRL := Lib.hid (show r ≤ 1114111 by rw [← HTU.out.r]; exact it_le _ _ HLO.out)
                    have hlt8 : w.heap.size < wr.heap.size := (Array.getElem?_eq_some_iff.1 HJ8.out).1
                    clear hnext hne
                    go_wp2_with (go_at_call 63; refine (CS.out r HRL.out _ HB8.out).mono ?_; rintro e Wd ⟨rfl, hb9⟩; have HB9 := Lib.hid (HB8.out.trans (hb9.mono HB8.out.size)); have HJ9 := Lib.hid ((hb9.block _ hlt8).trans HJ8.out); clear hb9)
                    go_roundg g3
                    case measure => omega
                    case rel => exact ⟨j + 1, nx r, rfl, by omega, HNX.out, HB9.out, HJ9.out⟩
                  · by_cases e3 : r = R2
                    · have HEQ : eqR R3 R2 = true := HTU.out.hit e3
                      have b2 : ((r : Int) == (R2 : Int)) = true := beq_iff_eq.2 (by omega)
                      clear hne
                      go_wp2_with fail
                      go_roundg g2
                      case measure => omega
                      case rel => exact ⟨p + K2, T2, rfl, HJ8.out, HB8.out, by omega, by have := HST.out; rw [HEQ, Bool.true_and] at this; exact this.symm, by omega⟩
                    · have HEQ : eqR R3 R2 = false := HTU.out.past hlt (by omega)
                      have b2 : ((r : Int) == (R2 : Int)) = false := beq_eq_false_iff_ne.2 (by omega)
                      clear hne
                      go_wp2_with fail
                      try rw [jump_ret]
                      go_ret
                      exact ⟨by have := HST.out; rw [HEQ, Bool.false_and] at this; rw [this]; rfl, HB8.out⟩
          · have HEQ : eqR R2 R3 = true := by rw [heq]; exact eqR_refl _
            have hne : ((R3 : Int) == (R2 : Int)) = true := beq_iff_eq.2 (by omega)
            go_wp2_with (go_at_call 50; refine (CD.out _ HC2.out).mono ?_; rintro e Wb ⟨rfl, hb6⟩; have HB6 := Lib.hid (HC2.out.trans (hb6.mono HC2.out.size)); have HJ6 := Lib.hid ((hb6.block _ hltW).trans HJ2.out); have hlt6 : w.heap.size < Wb.heap.size := (by have := hb6.size; omega); clear hb6)
            try rw [hT2]
            go_roundg g2
            case measure => omega
            case rel => exact ⟨p + K2, T2, rfl, HJ6.out, HB6.out, by omega, by have := HST.out; rw [HEQ, Bool.true_and] at this; exact this.symm, by omega⟩
          · have hEQ := Lib.hid (show eqR R2 R3 = eqR R2 R3 from rfl)
            rw [hEQ.out] at HST
            have hne : ((R3 : Int) == (R2 : Int)) = false := beq_eq_false_iff_ne.2 (by omega)
            by_cases h128 : R3 < 128
            · have hasc := Lib.hid (asc_alike hlt h128)
              go_wp2_with (go_at_call 50; refine (CD.out _ HC2.out).mono ?_; rintro e Wb ⟨rfl, hb6⟩; have HB6 := Lib.hid (HC2.out.trans (hb6.mono HC2.out.size)); have HJ6 := Lib.hid ((hb6.block _ hltW).trans HJ2.out); have hlt6 : w.heap.size < Wb.heap.size := (by have := hb6.size; omega); clear hb6)
              all_goals (try simp only [beq_iff_eq, beq_eq_false_iff_ne, ne_eq] at *)
              all_goals first
                | (have HEQ : eqR R2 R3 = true := (by rw [hasc.out]; simp only [Bool.and_eq_true, decide_eq_true_eq]; omega)
                   go_roundg g2
                   case measure => omega
                   case rel => exact ⟨p + K2, T2, rfl, HJ6.out, HB6.out, by omega, by have := HST.out; rw [HEQ, Bool.true_and] at this; exact this.symm, by omega⟩)
                | (have HEQ : eqR R2 R3 = false := (by rw [hasc.out]; simp only [Bool.and_eq_false_iff, decide_eq_false_iff_not]; omega)
                   try rw [jump_ret]
                   go_ret
                   exact ⟨by have := HST.out; rw [HEQ, Bool.false_and] at this; rw [this]; rfl, HB6.out⟩)
            · have HLO := Lib.hid (show R2 ≤ 1114111 by omega)
              go_wp2_with (first | (go_at_call 50; refine (CD.out _ HC2.out).mono ?_; rintro e Wb ⟨rfl, hb6⟩; have HB6 := Lib.hid (HC2.out.trans (hb6.mono HC2.out.size)); have HJ6 := Lib.hid ((hb6.block _ hltW).trans HJ2.out); have hlt6 : w.heap.size < Wb.heap.size := (by have := hb6.size; omega); clear hb6) | (go_at_call 63; refine (CS.out R2 HLO.out _ HB6.out).mono ?_; rintro e Wc ⟨rfl, hb7⟩; have HB7 := Lib.hid (HB6.out.trans (hb7.mono HB6.out.size)); have HJ7 := Lib.hid ((hb7.block _ hlt6).trans HJ6.out); clear hb7))
              go_loopg [13] 4 (fun gf v wx => ∃ j r : Nat, v = .int .i32 (r : Int) ∧ gf + j = 5 ∧ Hid (Turn R2 R3 j r) ∧ Hid (Below w.heap.size w wx) ∧ Hid (wx.heap[w.heap.size]? = some (.stringIter S (p + K2))))
              case atStart => exact ⟨1, nx R2, rfl, rfl, Turn.first _ _, HB7.out, HJ7.out⟩
              case round =>
                clear HB7 HJ7 HB6 HJ6 hlt6
                obtain ⟨j, r, rfl, hgj, HTU, HB8, HJ8⟩ := hrel
                by_cases e1 : r = R2
                · have HEQ : eqR R2 R3 = false := HTU.out.back hlt e1
                  have b1 : ((r : Int) == (R2 : Int)) = true := beq_iff_eq.2 (by omega)
                  have b2 : ((r : Int) == (R3 : Int)) = false := beq_eq_false_iff_ne.2 (by omega)
                  clear hne
                  go_wp2_with fail
                  try rw [jump_ret]
                  go_ret
                  exact ⟨by have := HST.out; rw [HEQ, Bool.false_and] at this; rw [this]; rfl, HB8.out⟩
                · have b1 : ((r : Int) == (R2 : Int)) = false := beq_eq_false_iff_ne.2 (by omega)
                  by_cases e2 : r < R3
                  · obtain ⟨hnext, hj4⟩ := HTU.out.next e1 e2
                    obtain ⟨g3, rfl⟩ : ∃ g3, gk = g3 + 1 := ⟨gk - 1, by omega⟩
                    have HNX := Lib.hid hnext
                    have HRL := Lib.hid (show r ≤ 1114111 by rw [← HTU.out.r]; exact it_le _ _ HLO.out)
                    have hlt8 : w.heap.size < wr.heap.size := (Array.getElem?_eq_some_iff.1 HJ8.out).1
                    clear hnext hne
                    go_wp2_with (go_at_call 63; refine (CS.out r HRL.out _ HB8.out).mono ?_; rintro e Wd ⟨rfl, hb9⟩; have HB9 := Lib.hid (HB8.out.trans (hb9.mono HB8.out.size)); have HJ9 := Lib.hid ((hb9.block _ hlt8).trans HJ8.out); clear hb9)
                    go_roundg g3
                    case measure => omega
                    case rel => exact ⟨j + 1, nx r, rfl, by omega, HNX.out, HB9.out, HJ9.out⟩
                  · by_cases e3 : r = R3
                    · have HEQ : eqR R2 R3 = true := HTU.out.hit e3
                      have b2 : ((r : Int) == (R3 : Int)) = true := beq_iff_eq.2 (by omega)
                      clear hne
                      go_wp2_with fail
                      go_roundg g2
                      case measure => omega
                      case rel => exact ⟨p + K2, T2, rfl, HJ8.out, HB8.out, by omega, by have := HST.out; rw [HEQ, Bool.true_and] at this; exact this.symm, by omega⟩
                    · have HEQ : eqR R2 R3 = false := HTU.out.past hlt (by omega)
                      have b2 : ((r : Int) == (R3 : Int)) = false := beq_eq_false_iff_ne.2 (by omega)
                      clear hne
                      go_wp2_with fail
                      try rw [jump_ret]
                      go_ret
                      exact ⟨by have := HST.out; rw [HEQ, Bool.false_and] at this; rw [this]; rfl, HB8.out⟩
      · have hi2 := HIT.out
        have hnx2 : ∀ ty, (Instr.next (.pointer (some ⟨w.heap.size, 0, none⟩)) true ty).run Tryd.prog wr = _ := fun ty => Lib.run_next_end_at wr w.heap.size S p ty hi2 hp2
        clear hi2
        by_cases hT0 : T.size = 0
        · have hb : ((T.size : Int) == 0) = true := beq_iff_eq.2 (by omega)
          have HN := Lib.hid (show ANS = true by
            rw [← HE.out, show T.data.toList = [] from List.length_eq_zero_iff.1 (by rw [len_data]; exact hT0), drop_end S _ (by omega)]; rfl)
          go_wp2
          try rw [jump_ret]
          go_ret
          exact ⟨by rw [HN.out]; rfl, HBr.out⟩
        · have hb : ((T.size : Int) == 0) = false := beq_eq_false_iff_ne.2 (by omega)
          have HN := Lib.hid (show ANS = false by
            rw [← HE.out, drop_end S _ (by omega)]
            exact eqF_nil_cons (fun h => hT0 (by rw [← len_data, h]; rfl)))
          go_wp2
          try rw [jump_ret]
          go_ret
          exact ⟨by rw [HN.out]; rfl, HBr.out⟩
end Go.Proofs.YtlgibcphfmjddaaDoor
