/-
  For every four texts the law FnEqualFoldSum returns true and changes nothing: well-formed texts that are equal under folding are so, one behind the other, too, and have as many code points; and a letter is so in its other cases. Condition: what comes in is of bulk at most 1048576 (the second form).
-/
import Derived.Test.YtlgibcphfmjddaaDoorCards
import Derived.Test.YtlgibcphfmjddaaDoorTie
import Derived.Test.YtlgibcphfmjddaaDoorTabs
import Derived.Test.YtlgibcphfmjddaaDoorFoldW
import Derived.Test.YtlgibcphfmjddaaDoorMapU
import Derived.Test.YtlgibcphfmjddaaDoorMapP
import Derived.Test.YtlgibcphfmjddaaDoorSpecV
import Derived.WalkKit
import Derived.ProofKit
import Derived.OpenShut
import Derived.ShutString
import Derived.ChangeOld
import Derived.Below
import Derived.SizedLaws
import Derived.Lib.SmallJoins
import Derived.Deep.CondSized
import Derived.Deep.DeepHandedRow
import Derived.Deep.DeepWitnessRowRef
namespace Go.Proofs.YtlgibcphfmjddaaDoor.fnEqualFoldSumUpto
open Go.ChangeShapes Go.WideShapes Go.ChangeAt Go.RowKit Go.Joins
open Go.ChangeMaps (open_string shut_string)
set_option linter.unusedVariables false

theorem own : ownKnob Tryd.prog.godebug = none := by kernel_rfl
theorem laidOut : laidOutB Tryd.prog = true := by kernel_rfl
theorem rn_append (l m : List UInt8) (h : (chs l).all okC = true) : rn (l ++ m) = rn l ++ rn m := by
  have h1 := chs_oks (chs l) (fun c hc => ⟨chs_mem hc, List.all_eq_true.1 h c hc⟩) m
  rw [cat_chs] at h1
  unfold rn
  rw [h1, List.map_append]
theorem rn_enc (x : Int) : rn (Lib.encodeRune x) = [sc x] := by unfold rn; rw [enc_chs]; rfl
theorem cat3 (a b c : ByteArray) : (a ++ b ++ c).data.toList = a.data.toList ++ (b.data.toList ++ c.data.toList) := by
  rw [ByteArray.data_append, ByteArray.data_append, Array.toList_append, Array.toList_append, List.append_assoc]
theorem mid (a c X Y : ByteArray) (x y : Int) (ha : (chs a.data.toList).all okC = true) (hX : X.data.toList = Lib.encodeRune x) (hY : Y.data.toList = Lib.encodeRune y) :
    eqF (a ++ X ++ c).data.toList (a ++ Y ++ c).data.toList = eqR (sc x) (sc y) := by
  have hw : ∀ z : Int, (chs (Lib.encodeRune z)).all okC = true := fun z => by rw [enc_chs]; simp [enc_ok]
  unfold eqF
  rw [cat3, cat3, rn_append _ _ ha, rn_append _ _ ha, hX, hY, rn_append _ _ (hw x), rn_append _ _ (hw y), rn_enc, rn_enc, eqL_append _ _ _ _ rfl, eqL_refl, Bool.true_and]
  show (eqR (sc x) (sc y) && eqL (rn c.data.toList) (rn c.data.toList)) = _
  rw [eqL_refl, Bool.and_true]
theorem two (a b c d : ByteArray) (ha : (chs a.data.toList).all okC = true) (hb : (chs b.data.toList).all okC = true) (h1 : eqF a.data.toList b.data.toList = true) (h2 : eqF c.data.toList d.data.toList = true) :
    eqF (a ++ c).data.toList (b ++ d).data.toList = true ∧ (pcs 0 a.data.toList).length = (pcs 0 b.data.toList).length := by
  have hl := eqL_len _ _ h1
  constructor
  · unfold eqF at *
    rw [ByteArray.data_append, ByteArray.data_append, Array.toList_append, Array.toList_append, rn_append _ _ ha, rn_append _ _ hb, eqL_append _ _ _ _ hl, h1, h2]; rfl
  · rw [pcs_count, pcs_count]
    unfold rn at hl
    simpa using hl
theorem r1 : eqR 107 75 = true := by kernel_rfl
theorem r2 : eqR 107 8490 = true := by kernel_rfl
theorem r3 : eqR 83 383 = true := by kernel_rfl
theorem r4 : eqR 229 8491 = true := by kernel_rfl
theorem r5 : eqR 107 120 = false := by kernel_rfl
set_option maxRecDepth 100000 in
set_option maxHeartbeats 4000000 in
theorem walk (a0 : ByteArray) (a1 : ByteArray) (a2 : ByteArray) (a3 : ByteArray) (w : World) (w0 : a0.size ≤ 1048576) (w1 : a1.size ≤ 1048576) (w2 : a2.size ≤ 1048576) (w3 : a3.size ≤ 1048576) (hT : Tabs w) (hF : Folds w) :
    Calls Tryd.prog 12 #[.string a0, .string a1, .string a2, .string a3] w fun e w' => e = .returned (.bool true) ∧ Below w.heap.size w w' := by
  have HT := Lib.hid hT; have HF := Lib.hid hF; clear hT hF
  have CE := Lib.hid (fun (s t : ByteArray) (hs : s.size ≤ 140737488351232) (ht : t.size ≤ 140737488351232) (W : World) (hb : Below w.heap.size w W) => impl_EqualFold s t W hs ht (HT.out.below hb) (HF.out.below hb))
  have W0 := Lib.hid (fun (W : World) (hb : Below w.heap.size w W) => spec_Whole a0 W (by omega))
  have W1 := Lib.hid (fun (W : World) (hb : Below w.heap.size w W) => spec_Whole a1 W (by omega))
  have W2 := Lib.hid (fun (W : World) (hb : Below w.heap.size w W) => spec_Whole a2 W (by omega))
  have W3 := Lib.hid (fun (W : World) (hb : Below w.heap.size w W) => spec_Whole a3 W (by omega))
  cases h0 : (chs a0.data.toList).all okC
  · rw [h0] at W0
    have B0 := Lib.hid (Below.refl w.heap.size w)
    go_enter Tryd.func12, Tryd.ntmps12
    go_wp2_with fail
    refine (W0.out _ B0.out).mono ?_; rintro e v1 ⟨rfl, hb1⟩
    have B1 := Lib.hid (B0.out.trans (hb1.mono B0.out.size)); clear hb1
    go_wp2_with fail
    go_ret
    exact ⟨by first | rfl | simp, B1.out⟩
  · rw [h0] at W0
    cases h1 : (chs a1.data.toList).all okC
    · rw [h1] at W1
      have B0 := Lib.hid (Below.refl w.heap.size w)
      go_enter Tryd.func12, Tryd.ntmps12
      go_wp2_with fail
      refine (W0.out _ B0.out).mono ?_; rintro e v1 ⟨rfl, hb1⟩
      have B1 := Lib.hid (B0.out.trans (hb1.mono B0.out.size)); clear hb1
      go_wp2_with fail
      refine (W1.out _ B1.out).mono ?_; rintro e v2 ⟨rfl, hb2⟩
      have B2 := Lib.hid (B1.out.trans (hb2.mono B1.out.size)); clear hb2
      go_wp2_with fail
      go_ret
      exact ⟨by first | rfl | simp, B2.out⟩
    · rw [h1] at W1
      cases h2 : (chs a2.data.toList).all okC
      · rw [h2] at W2
        have B0 := Lib.hid (Below.refl w.heap.size w)
        go_enter Tryd.func12, Tryd.ntmps12
        go_wp2_with fail
        refine (W0.out _ B0.out).mono ?_; rintro e v1 ⟨rfl, hb1⟩
        have B1 := Lib.hid (B0.out.trans (hb1.mono B0.out.size)); clear hb1
        go_wp2_with fail
        refine (W1.out _ B1.out).mono ?_; rintro e v2 ⟨rfl, hb2⟩
        have B2 := Lib.hid (B1.out.trans (hb2.mono B1.out.size)); clear hb2
        go_wp2_with fail
        refine (W2.out _ B2.out).mono ?_; rintro e v3 ⟨rfl, hb3⟩
        have B3 := Lib.hid (B2.out.trans (hb3.mono B2.out.size)); clear hb3
        go_wp2_with fail
        go_ret
        exact ⟨by first | rfl | simp, B3.out⟩
      · rw [h2] at W2
        cases h3 : (chs a3.data.toList).all okC
        · rw [h3] at W3
          have B0 := Lib.hid (Below.refl w.heap.size w)
          go_enter Tryd.func12, Tryd.ntmps12
          go_wp2_with fail
          refine (W0.out _ B0.out).mono ?_; rintro e v1 ⟨rfl, hb1⟩
          have B1 := Lib.hid (B0.out.trans (hb1.mono B0.out.size)); clear hb1
          go_wp2_with fail
          refine (W1.out _ B1.out).mono ?_; rintro e v2 ⟨rfl, hb2⟩
          have B2 := Lib.hid (B1.out.trans (hb2.mono B1.out.size)); clear hb2
          go_wp2_with fail
          refine (W2.out _ B2.out).mono ?_; rintro e v3 ⟨rfl, hb3⟩
          have B3 := Lib.hid (B2.out.trans (hb3.mono B2.out.size)); clear hb3
          go_wp2_with fail
          refine (W3.out _ B3.out).mono ?_; rintro e v4 ⟨rfl, hb4⟩
          have B4 := Lib.hid (B3.out.trans (hb4.mono B3.out.size)); clear hb4
          go_wp2_with fail
          go_ret
          exact ⟨by first | rfl | simp, B4.out⟩
        · rw [h3] at W3
          have hsz : ∀ (s X t : ByteArray), s.size ≤ 1048576 → t.size ≤ 1048576 → X.size ≤ 3 → (s ++ X ++ t).size ≤ 140737488351232 := fun s X t h1 h2 h3 => by
            rw [ByteArray.size_append, ByteArray.size_append]; omega
          have E0 := Lib.hid (fun (W : World) (hb : Below w.heap.size w W) => CE.out (a0 ++ ⟨#[107]⟩ ++ a2) (a0 ++ ⟨#[75]⟩ ++ a2) (hsz _ _ _ w0 w2 (by decide)) (hsz _ _ _ w0 w2 (by decide)) W hb)
          rw [mid a0 a2 ⟨#[107]⟩ ⟨#[75]⟩ 107 75 h0 (by decide) (by decide), show eqR (sc 107) (sc 75) = true from r1] at E0
          have E1 := Lib.hid (fun (W : World) (hb : Below w.heap.size w W) => CE.out (a0 ++ ⟨#[107]⟩ ++ a2) (a0 ++ ⟨#[226, 132, 170]⟩ ++ a2) (hsz _ _ _ w0 w2 (by decide)) (hsz _ _ _ w0 w2 (by decide)) W hb)
          rw [mid a0 a2 ⟨#[107]⟩ ⟨#[226, 132, 170]⟩ 107 8490 h0 (by decide) (by decide), show eqR (sc 107) (sc 8490) = true from r2] at E1
          have E2 := Lib.hid (fun (W : World) (hb : Below w.heap.size w W) => CE.out (a0 ++ ⟨#[83]⟩ ++ a2) (a0 ++ ⟨#[197, 191]⟩ ++ a2) (hsz _ _ _ w0 w2 (by decide)) (hsz _ _ _ w0 w2 (by decide)) W hb)
          rw [mid a0 a2 ⟨#[83]⟩ ⟨#[197, 191]⟩ 83 383 h0 (by decide) (by decide), show eqR (sc 83) (sc 383) = true from r3] at E2
          have E3 := Lib.hid (fun (W : World) (hb : Below w.heap.size w W) => CE.out (a0 ++ ⟨#[195, 165]⟩ ++ a2) (a0 ++ ⟨#[226, 132, 171]⟩ ++ a2) (hsz _ _ _ w0 w2 (by decide)) (hsz _ _ _ w0 w2 (by decide)) W hb)
          rw [mid a0 a2 ⟨#[195, 165]⟩ ⟨#[226, 132, 171]⟩ 229 8491 h0 (by decide) (by decide), show eqR (sc 229) (sc 8491) = true from r4] at E3
          have E4 := Lib.hid (fun (W : World) (hb : Below w.heap.size w W) => CE.out (a0 ++ ⟨#[107]⟩ ++ a2) (a0 ++ ⟨#[120]⟩ ++ a2) (hsz _ _ _ w0 w2 (by decide)) (hsz _ _ _ w0 w2 (by decide)) W hb)
          rw [mid a0 a2 ⟨#[107]⟩ ⟨#[120]⟩ 107 120 h0 (by decide) (by decide), show eqR (sc 107) (sc 120) = false from r5] at E4
          have F0 := Lib.hid (fun (W : World) (hb : Below w.heap.size w W) => CE.out a0 a1 (by omega) (by omega) W hb)
          have F1 := Lib.hid (fun (W : World) (hb : Below w.heap.size w W) => CE.out a2 a3 (by omega) (by omega) W hb)
          have F2 := Lib.hid (fun (W : World) (hb : Below w.heap.size w W) => CE.out (a0 ++ a2) (a1 ++ a3) (by rw [ByteArray.size_append]; omega) (by rw [ByteArray.size_append]; omega) W hb)
          have P0 := Lib.hid (fun (W : World) (hb : Below w.heap.size w W) => spec_Points a0 W (by omega))
          have P1 := Lib.hid (fun (W : World) (hb : Below w.heap.size w W) => spec_Points a1 W (by omega))
          have htwo := two a0 a1 a2 a3 h0 h1
          clear CE hsz h0 h1 h2 h3
          cases x1 : eqF a0.data.toList a1.data.toList
          · rw [x1] at F0
            clear x1 htwo
            have B0 := Lib.hid (Below.refl w.heap.size w)
            go_enter Tryd.func12, Tryd.ntmps12
            go_wp2_with fail
            refine (W0.out _ B0.out).mono ?_; rintro e v1 ⟨rfl, hb1⟩
            have B1 := Lib.hid (B0.out.trans (hb1.mono B0.out.size)); clear hb1
            go_wp2_with fail
            refine (W1.out _ B1.out).mono ?_; rintro e v2 ⟨rfl, hb2⟩
            have B2 := Lib.hid (B1.out.trans (hb2.mono B1.out.size)); clear hb2
            go_wp2_with fail
            refine (W2.out _ B2.out).mono ?_; rintro e v3 ⟨rfl, hb3⟩
            have B3 := Lib.hid (B2.out.trans (hb3.mono B2.out.size)); clear hb3
            go_wp2_with fail
            refine (W3.out _ B3.out).mono ?_; rintro e v4 ⟨rfl, hb4⟩
            have B4 := Lib.hid (B3.out.trans (hb4.mono B3.out.size)); clear hb4
            go_wp2_with fail
            refine (E0.out _ B4.out).mono ?_; rintro e v5 ⟨rfl, hb5⟩
            have B5 := Lib.hid (B4.out.trans (hb5.mono B4.out.size)); clear hb5
            go_wp2_with fail
            refine (E1.out _ B5.out).mono ?_; rintro e v6 ⟨rfl, hb6⟩
            have B6 := Lib.hid (B5.out.trans (hb6.mono B5.out.size)); clear hb6
            go_wp2_with fail
            refine (E2.out _ B6.out).mono ?_; rintro e v7 ⟨rfl, hb7⟩
            have B7 := Lib.hid (B6.out.trans (hb7.mono B6.out.size)); clear hb7
            go_wp2_with fail
            refine (E3.out _ B7.out).mono ?_; rintro e v8 ⟨rfl, hb8⟩
            have B8 := Lib.hid (B7.out.trans (hb8.mono B7.out.size)); clear hb8
            go_wp2_with fail
            refine (E4.out _ B8.out).mono ?_; rintro e v9 ⟨rfl, hb9⟩
            have B9 := Lib.hid (B8.out.trans (hb9.mono B8.out.size)); clear hb9
            go_wp2_with fail
            refine (F0.out _ B9.out).mono ?_; rintro e v10 ⟨rfl, hb10⟩
            have B10 := Lib.hid (B9.out.trans (hb10.mono B9.out.size)); clear hb10
            go_wp2_with fail
            go_ret
            exact ⟨by first | rfl | simp, B10.out⟩
          · rw [x1] at F0
            cases x2 : eqF a2.data.toList a3.data.toList
            · rw [x2] at F1
              clear x1 x2 htwo
              have B0 := Lib.hid (Below.refl w.heap.size w)
              go_enter Tryd.func12, Tryd.ntmps12
              go_wp2_with fail
              refine (W0.out _ B0.out).mono ?_; rintro e v1 ⟨rfl, hb1⟩
              have B1 := Lib.hid (B0.out.trans (hb1.mono B0.out.size)); clear hb1
              go_wp2_with fail
              refine (W1.out _ B1.out).mono ?_; rintro e v2 ⟨rfl, hb2⟩
              have B2 := Lib.hid (B1.out.trans (hb2.mono B1.out.size)); clear hb2
              go_wp2_with fail
              refine (W2.out _ B2.out).mono ?_; rintro e v3 ⟨rfl, hb3⟩
              have B3 := Lib.hid (B2.out.trans (hb3.mono B2.out.size)); clear hb3
              go_wp2_with fail
              refine (W3.out _ B3.out).mono ?_; rintro e v4 ⟨rfl, hb4⟩
              have B4 := Lib.hid (B3.out.trans (hb4.mono B3.out.size)); clear hb4
              go_wp2_with fail
              refine (E0.out _ B4.out).mono ?_; rintro e v5 ⟨rfl, hb5⟩
              have B5 := Lib.hid (B4.out.trans (hb5.mono B4.out.size)); clear hb5
              go_wp2_with fail
              refine (E1.out _ B5.out).mono ?_; rintro e v6 ⟨rfl, hb6⟩
              have B6 := Lib.hid (B5.out.trans (hb6.mono B5.out.size)); clear hb6
              go_wp2_with fail
              refine (E2.out _ B6.out).mono ?_; rintro e v7 ⟨rfl, hb7⟩
              have B7 := Lib.hid (B6.out.trans (hb7.mono B6.out.size)); clear hb7
              go_wp2_with fail
              refine (E3.out _ B7.out).mono ?_; rintro e v8 ⟨rfl, hb8⟩
              have B8 := Lib.hid (B7.out.trans (hb8.mono B7.out.size)); clear hb8
              go_wp2_with fail
              refine (E4.out _ B8.out).mono ?_; rintro e v9 ⟨rfl, hb9⟩
              have B9 := Lib.hid (B8.out.trans (hb9.mono B8.out.size)); clear hb9
              go_wp2_with fail
              refine (F0.out _ B9.out).mono ?_; rintro e v10 ⟨rfl, hb10⟩
              have B10 := Lib.hid (B9.out.trans (hb10.mono B9.out.size)); clear hb10
              go_wp2_with fail
              refine (F1.out _ B10.out).mono ?_; rintro e v11 ⟨rfl, hb11⟩
              have B11 := Lib.hid (B10.out.trans (hb11.mono B10.out.size)); clear hb11
              go_wp2_with fail
              go_ret
              exact ⟨by first | rfl | simp, B11.out⟩
            · rw [x2] at F1
              obtain ⟨q1, q2⟩ := htwo x1 x2
              rw [q1] at F2
              obtain ⟨N, hN⟩ : ∃ N, (pcs 0 a1.data.toList).length = N := ⟨_, rfl⟩
              have HN0 := Lib.hid (q2.trans hN); have HN1 := Lib.hid hN
              clear x1 x2 q1 q2 hN htwo
              have B0 := Lib.hid (Below.refl w.heap.size w)
              go_enter Tryd.func12, Tryd.ntmps12
              go_wp2_with fail
              refine (W0.out _ B0.out).mono ?_; rintro e v1 ⟨rfl, hb1⟩
              have B1 := Lib.hid (B0.out.trans (hb1.mono B0.out.size)); clear hb1
              go_wp2_with fail
              refine (W1.out _ B1.out).mono ?_; rintro e v2 ⟨rfl, hb2⟩
              have B2 := Lib.hid (B1.out.trans (hb2.mono B1.out.size)); clear hb2
              go_wp2_with fail
              refine (W2.out _ B2.out).mono ?_; rintro e v3 ⟨rfl, hb3⟩
              have B3 := Lib.hid (B2.out.trans (hb3.mono B2.out.size)); clear hb3
              go_wp2_with fail
              refine (W3.out _ B3.out).mono ?_; rintro e v4 ⟨rfl, hb4⟩
              have B4 := Lib.hid (B3.out.trans (hb4.mono B3.out.size)); clear hb4
              go_wp2_with fail
              refine (E0.out _ B4.out).mono ?_; rintro e v5 ⟨rfl, hb5⟩
              have B5 := Lib.hid (B4.out.trans (hb5.mono B4.out.size)); clear hb5
              go_wp2_with fail
              refine (E1.out _ B5.out).mono ?_; rintro e v6 ⟨rfl, hb6⟩
              have B6 := Lib.hid (B5.out.trans (hb6.mono B5.out.size)); clear hb6
              go_wp2_with fail
              refine (E2.out _ B6.out).mono ?_; rintro e v7 ⟨rfl, hb7⟩
              have B7 := Lib.hid (B6.out.trans (hb7.mono B6.out.size)); clear hb7
              go_wp2_with fail
              refine (E3.out _ B7.out).mono ?_; rintro e v8 ⟨rfl, hb8⟩
              have B8 := Lib.hid (B7.out.trans (hb8.mono B7.out.size)); clear hb8
              go_wp2_with fail
              refine (E4.out _ B8.out).mono ?_; rintro e v9 ⟨rfl, hb9⟩
              have B9 := Lib.hid (B8.out.trans (hb9.mono B8.out.size)); clear hb9
              go_wp2_with fail
              refine (F0.out _ B9.out).mono ?_; rintro e v10 ⟨rfl, hb10⟩
              have B10 := Lib.hid (B9.out.trans (hb10.mono B9.out.size)); clear hb10
              go_wp2_with fail
              refine (F1.out _ B10.out).mono ?_; rintro e v11 ⟨rfl, hb11⟩
              have B11 := Lib.hid (B10.out.trans (hb11.mono B10.out.size)); clear hb11
              go_wp2_with fail
              refine (F2.out _ B11.out).mono ?_; rintro e v12 ⟨rfl, hb12⟩
              have B12 := Lib.hid (B11.out.trans (hb12.mono B11.out.size)); clear hb12
              go_wp2_with fail
              refine (P0.out _ B12.out).mono ?_; rintro e v13 ⟨g13, c13, rfl, ho13, hb13⟩; rw [HN0.out]
              have B13 := Lib.hid (B12.out.trans (hb13.mono B12.out.size)); clear hb13 ho13
              go_wp2_with fail
              refine (P1.out _ B13.out).mono ?_; rintro e v14 ⟨g14, c14, rfl, ho14, hb14⟩; rw [HN1.out]
              have B14 := Lib.hid (B13.out.trans (hb14.mono B13.out.size)); clear hb14 ho14
              go_wp2_with fail
              go_ret
              exact ⟨by first | rfl | simp, B14.out⟩

set_option maxRecDepth 100000 in
theorem contract (H : Type) (enc : TypeId × Value → H) (W : World) (base : Nat) (args : Array Value) (ds gs : List (DataW H)) (before : List MemPlace)
    (hval0 : ∀ (j : Nat) t v, Tryd.f12.params[j]? = some t → args[j]? = some v → Value.okWide Tryd.prog W .any base t v)
    (hW : DataW.Whole enc Tryd.prog Tryd.f12.params.toList Rows.fnEqualFoldSumSpec.vars false W args.toList ds gs before)
    (hsz0 : (DataW.weightsEach Tryd.prog (Tryd.f12.params.toList ++ Rows.fnEqualFoldSumSpec.plain.varTypes Tryd.prog) (ds ++ gs)).all (· ≤ reachBytes) = true) (hk : Rows.uptoSmall H (ds ++ gs) = true) (hL : laidMetH Tryd.prog Rows.fnEqualFoldSumUptoRow.laid W) :
    Calls Tryd.prog 12 args W fun e W' => ∃ v, e = .returned v ∧ Rows.fnEqualFoldSumSpec.post enc Tryd.prog Tryd.f12 false true false false W args v W' := by
  have hval := hval0
  have hsz := hsz0
  clear hval0 hsz0
  have hW' := hW
  obtain ⟨p, q, hA0, hV, rfl, hfz, hnd⟩ := hW
  have hA : DataW.TrodAll enc Tryd.prog W 0 (fun _ => true) true Tryd.f12.params.toList args.toList ds p := hA0
  rw [Tryd.params12] at hA hval hsz
  obtain ⟨v0, vs0, d0, ds0, p0, q0, hargs, rfl, rfl, h0, r0x⟩ := trodAll_cons hA
  obtain ⟨v1, vs1, d1, ds1, p1, q1, rfl, rfl, rfl, h1, r1x⟩ := trodAll_cons r0x
  obtain ⟨v2, vs2, d2, ds2, p2, q2, rfl, rfl, rfl, h2, r2x⟩ := trodAll_cons r1x
  obtain ⟨v3, vs3, d3, ds3, p3, q3, rfl, rfl, rfl, h3, r3x⟩ := trodAll_cons r2x
  obtain ⟨rfl, rfl, rfl⟩ := trodAll_nil r3x
  obtain rfl : args = #[v0, v1, v2, v3] := by cases args; simp_all
  obtain ⟨rfl, rfl⟩ := trodVars_none hV
  have hbulk := of_decide_eq_true hk
  obtain ⟨a0, rfl, rfl, rfl, x0⟩ := open_string Tryd.underlying9 (hval 0 9 v0 rfl rfl) h0
  obtain ⟨a1, rfl, rfl, rfl, x1⟩ := open_string Tryd.underlying9 (hval 1 9 v1 rfl rfl) h1
  obtain ⟨a2, rfl, rfl, rfl, x2⟩ := open_string Tryd.underlying9 (hval 2 9 v2 rfl rfl) h2
  obtain ⟨a3, rfl, rfl, rfl, x3⟩ := open_string Tryd.underlying9 (hval 3 9 v3 rfl rfl) h3
  clear hA0
  have w0 : a0.size ≤ 1048576 := by
    simp only [Rows.uptoBulkAll, Rows.uptoBulk, List.append_nil] at hbulk
    have e : a0.data.toList.length = a0.size := by rw [Array.length_toList]; rfl
    omega
  have w1 : a1.size ≤ 1048576 := by
    simp only [Rows.uptoBulkAll, Rows.uptoBulk, List.append_nil] at hbulk
    have e : a1.data.toList.length = a1.size := by rw [Array.length_toList]; rfl
    omega
  have w2 : a2.size ≤ 1048576 := by
    simp only [Rows.uptoBulkAll, Rows.uptoBulk, List.append_nil] at hbulk
    have e : a2.data.toList.length = a2.size := by rw [Array.length_toList]; rfl
    omega
  have w3 : a3.size ≤ 1048576 := by
    simp only [Rows.uptoBulkAll, Rows.uptoBulk, List.append_nil] at hbulk
    have e : a3.data.toList.length = a3.size := by rw [Array.length_toList]; rfl
    omega
  refine (walk a0 a1 a2 a3 W w0 w1 w2 w3 (tabs_of hL (by unfold Rows.fnEqualFoldSumUptoRow; simp) (by unfold Rows.fnEqualFoldSumUptoRow; simp)) (folds_of hL (by unfold Rows.fnEqualFoldSumUptoRow; simp) (by unfold Rows.fnEqualFoldSumUptoRow; simp) (by unfold Rows.fnEqualFoldSumUptoRow; simp))).mono fun e W' ⟨he, bel⟩ => ?_
  subst he
  exact ⟨_, rfl, _, _, _, [], _, [], hW', trodAll_mk1 (shut_bool Tryd.underlying4 _), (trodAll_cons_mk (shut_string Tryd.underlying9 x0) (trodAll_cons_mk (shut_string Tryd.underlying9 x1) (trodAll_cons_mk (shut_string Tryd.underlying9 x2) (trodAll_cons_mk (shut_string Tryd.underlying9 x3) trodAll_mk0)))), rfl, bel.frame _, fun h => by cases h⟩

theorem laid_met (os : Os) : laidMet Tryd.prog Rows.fnEqualFoldSumUptoRow.laid ((laidWorldF os).forCall (fun _ _ => 0) ⟨#[], #[.string ByteArray.empty, .string ByteArray.empty, .string ByteArray.empty, .string ByteArray.empty], []⟩).memory :=
  laidF_met os _
theorem reads (os : Os) {H : Type} (enc : TypeId × Value → H) : ∃ places, DataW.whole enc Tryd.prog ((laidWorldF os).forCall (fun _ _ => 0) ⟨#[], #[.string ByteArray.empty, .string ByteArray.empty, .string ByteArray.empty, .string ByteArray.empty], []⟩).memory Tryd.f12.params.toList Rows.fnEqualFoldSumSpec.vars false (#[.string ByteArray.empty, .string ByteArray.empty, .string ByteArray.empty, .string ByteArray.empty] : Array Value).toList 8 = some ([.lit (.string []), .lit (.string []), .lit (.string []), .lit (.string [])], [], places) :=
  ⟨[], by kernel_rfl⟩
set_option maxRecDepth 100000 in
theorem lifted (os : Os) (started : os.Started) (H : Type) (enc : TypeId × Value → H) (F : Stop.Interp) :
    ReturnsInHanded {} Tryd.checked os 12 .any ((Rows.OpenSpec.upto Rows.fnEqualFoldSumSpec).preRow enc Tryd.prog Tryd.f12 Rows.fnEqualFoldSumUptoRow.domain false Rows.fnEqualFoldSumUptoRow.laid) (((Rows.OpenSpec.upto Rows.fnEqualFoldSumSpec).at F).post enc Tryd.prog Tryd.f12 false true false false) := by
  obtain ⟨places, hx⟩ := reads os enc
  refine returnsInHanded_of_row (C := Tryd.checked) (s := Rows.OpenSpec.upto Rows.fnEqualFoldSumSpec) own started (by kernel_rfl) Tryd.func12
    (witness_row_atRef (enc := enc) (C := Tryd.checked) false (laidWorldF os) #[.string ByteArray.empty, .string ByteArray.empty, .string ByteArray.empty, .string ByteArray.empty] rfl (by kernel_rfl) (by kernel_rfl) (by kernel_rfl)
      (OpenSpec.preRow_of_cond 8 hx (by kernel_rfl) (fun k hk => by cases hk; kernel_rfl) (by kernel_rfl) (laid_met os))) ?_
  intro W base args ds gs before hval0 hW _ hcond hsz0 hL _ _
  exact contract H enc W base args ds gs before hval0 hW hsz0 (hcond _ rfl) hL

theorem said : Rows.FnEqualFoldSumUptoSaid :=
  OpenClaim.holds_of_cond 12 Tryd.f12 rfl rfl rfl rfl rfl rfl rfl ⟨rfl, rfl, rfl, rfl, rfl⟩ rfl rfl rfl rfl rfl (by kernel_rfl) Tryd.func12 (by kernel_rfl)
    (of_decide_eq_true (by kernel_rfl)) (by unfold Func.isWrapper; first | (rw [if_pos (by decide +kernel)]; kernel_rfl) | (rw [if_neg (by decide +kernel)]; exact ⟨rfl, rfl⟩))
    (fun os started H enc _ F => by rw [OpenClaim.pre_eq_preRow]; exact lifted os started H enc F)

theorem plain (f : FuncId) (fn : Func) (hf : Tryd.pinned.checked.prog.funcNamed Rows.fnEqualFoldSumUptoRow.func = some f) (hfn : Tryd.pinned.checked.prog.funcs[f]? = some fn) :
    false = Tryd.pinned.checked.prog.looks [] ∧ ∀ (j : Nat) t, fn.params[j]? = some t → Tryd.pinned.checked.prog.wantsStandIn t = false := by
  obtain rfl : f = 12 := Option.some.inj ((show Tryd.prog.funcNamed Rows.fnEqualFoldSumUptoRow.func = some 12 by kernel_rfl).symm.trans hf) |>.symm
  obtain rfl : fn = Tryd.f12 := (Option.some.inj (Tryd.func12.symm.trans hfn)).symm
  refine ⟨by kernel_rfl, fun j t ht => ?_⟩
  rw [Tryd.params12] at ht
  have hm := Array.mem_of_getElem? ht
  simp only [List.mem_toArray, List.mem_cons, List.mem_nil_iff, or_false] at hm
  rcases hm with rfl | rfl | rfl | rfl
  · exact (show Tryd.prog.wantsStandIn 9 = false by kernel_rfl)
  · exact (show Tryd.prog.wantsStandIn 9 = false by kernel_rfl)
  · exact (show Tryd.prog.wantsStandIn 9 = false by kernel_rfl)
  · exact (show Tryd.prog.wantsStandIn 9 = false by kernel_rfl)

theorem proved : Rows.FnEqualFoldSumUptoCardSaid :=
  Claim7.holds_tied_plain_at .later [] _ _ _ _ said (fun _ h => by cases h) (by kernel_rfl) (fun _ h => by cases h) fnEqualFoldSumUpto_row_tie rfl ⟨rfl, rfl⟩ (by kernel_rfl) rfl plain (by kernel_rfl)
#print axioms proved
end Go.Proofs.YtlgibcphfmjddaaDoor.fnEqualFoldSumUpto
