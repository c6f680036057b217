/-
  For every two texts the law FnValidAgain returns true and changes nothing: a well-formed text stays, and what was mended by such a one is such a one, or the bound is passed. No condition.
-/
import Derived.Test.YtapdpkojjkbccaaDoorCards
import Derived.Test.YtapdpkojjkbccaaDoorTie
import Derived.Test.YtapdpkojjkbccaaDoorTabs
import Derived.Test.YtapdpkojjkbccaaDoorSpecV
import Derived.Test.YtapdpkojjkbccaaDoorValid2
import Derived.WalkKit
import Derived.ProofKit
import Derived.OpenShut
import Derived.ShutString
import Derived.ChangeOld
import Derived.Below
import Derived.SizedLaws
import Derived.Lib.SmallJoins
import Derived.Deep.CondSized
import Derived.Deep.DeepHandedRow
import Derived.Deep.DeepWitnessRowRef
namespace Go.Proofs.YtapdpkojjkbccaaDoor.fnValidAgain
open Go.ChangeShapes Go.WideShapes Go.ChangeAt Go.RowKit Go.Joins
open Go.ChangeMaps (open_string shut_string)
set_option linter.unusedVariables false

theorem own : ownKnob Tryd.prog.godebug = none := by kernel_rfl
theorem laidOut : laidOutB Tryd.prog = true := by kernel_rfl
theorem area (s y : Nat) (h : ((s : Int) + 1) * ((y : Int) + 1) ≤ 16777216) : s + s * y ≤ 1099511627776 := by
  have e : ((s : Int) + 1) * ((y : Int) + 1) = ((s + s * y + y + 1 : Nat) : Int) := by push_cast; rw [Int.add_mul, Int.mul_add]; omega
  rw [e] at h; omega
theorem area_bounds (s y : Nat) (h1 : (s : Int) ≤ 16777216) (h2 : (y : Int) ≤ 16777216) : 0 ≤ ((s : Int) + 1) * ((y : Int) + 1) ∧ ((s : Int) + 1) * ((y : Int) + 1) ≤ 1125899906842624 := by
  constructor
  · exact Int.mul_nonneg (by omega) (by omega)
  · have := Int.mul_le_mul (show (s : Int) + 1 ≤ 33554432 by omega) (show (y : Int) + 1 ≤ 33554432 by omega) (by omega) (by omega)
    omega
set_option maxHeartbeats 1000000 in
theorem walk (a0 : ByteArray) (a1 : ByteArray) (w : World) (w0 : a0.size ≤ 140737488351232) (w1 : a1.size ≤ 140737488351232) (hT : Tabs w) :
    Calls Tryd.prog 3 #[.string a0, .string a1] w fun e w' => e = .returned (.bool true) ∧ Below w.heap.size w w' := by
  have HT := Lib.hid hT; clear hT
  by_cases h0 : (a0.size : Int) ≤ 16777216
  · by_cases h1 : (a1.size : Int) ≤ 16777216
    · have hb := area_bounds a0.size a1.size h0 h1
      have har := area a0.size a1.size
      obtain ⟨P, hP⟩ : ∃ P, ((a0.size : Int) + 1) * ((a1.size : Int) + 1) = P := ⟨_, rfl⟩
      rw [hP] at hb har
      obtain ⟨hb0, hb1⟩ := hb
      by_cases h2 : P ≤ 16777216
      · have hml := Nat.le_trans (mend_le a0 a1) (har h2)
        have C1 := Lib.hid (fun W (hb : Below w.heap.size w W) => impl_ToValidUTF8 a0 a1 W (HT.out.below hb) (by omega) hml (by omega))
        have CW := Lib.hid (fun (s : ByteArray) (hs : s.size ≤ 1099511627776) W => spec_Whole s W hs)
        obtain ⟨T, hTT⟩ : ∃ T : ByteArray, T = ⟨(mend a0 a1).toArray⟩ := ⟨_, rfl⟩
        have hTs : T.size ≤ 1099511627776 := by rw [hTT]; show (mend a0 a1).toArray.size ≤ _; rw [List.size_toArray]; exact hml
        have hTd : T.data.toList = mend a0 a1 := by rw [hTT]
        rw [← hTT] at C1
        have h1s : a1.size ≤ 1099511627776 := by omega
        have h0s : a0.size ≤ 1099511627776 := by omega
        clear har hml
        cases hw : (chs a0.data.toList).all okC
        · have HW := Lib.hid hw; clear hw
          cases hy : (chs a1.data.toList).all okC
          · have HY := Lib.hid hy; clear hy hTT hTd
            go_enter Tryd.func3, Tryd.ntmps3
            go_wp2_with fail
            refine (C1.out _ (Below.refl _ _)).mono ?_; rintro e w1 ⟨rfl, hb1⟩
            have B1 := Lib.hid hb1; clear hb1
            go_wp2_with fail
            refine (CW.out a0 h0s _).mono ?_; rintro e w2 ⟨rfl, hb2⟩; rw [HW.out]
            have B2 := Lib.hid (B1.out.trans (hb2.mono B1.out.size)); clear hb2
            go_wp2_with fail
            refine (CW.out a1 h1s _).mono ?_; rintro e w3 ⟨rfl, hb3⟩; rw [HY.out]
            have B3 := Lib.hid (B2.out.trans (hb3.mono B2.out.size)); clear hb3
            go_wp2_with fail
            go_ret
            exact ⟨rfl, B3.out⟩
          · have hok : (chs T.data.toList).all okC = true := by rw [hTd]; exact mend_mend a0 a1 hy
            have hmm : (⟨(mend T a1).toArray⟩ : ByteArray) = T := by rw [mend_whole T a1 hok]
            have hml2 : (mend T a1).length ≤ 1099511627776 := by rw [mend_whole T a1 hok, len_data]; exact hTs
            have C2 := Lib.hid (fun W (hb : Below w.heap.size w W) => impl_ToValidUTF8 T a1 W (HT.out.below hb) hTs hml2 h1s)
            rw [hmm] at C2
            have HY := Lib.hid hy; have HOK := Lib.hid hok
            clear hy hTT hTd hok hmm hml2
            go_enter Tryd.func3, Tryd.ntmps3
            go_wp2_with fail
            refine (C1.out _ (Below.refl _ _)).mono ?_; rintro e w1 ⟨rfl, hb1⟩
            have B1 := Lib.hid hb1; clear hb1
            go_wp2_with fail
            refine (CW.out a0 h0s _).mono ?_; rintro e w2 ⟨rfl, hb2⟩; rw [HW.out]
            have B2 := Lib.hid (B1.out.trans (hb2.mono B1.out.size)); clear hb2
            go_wp2_with fail
            refine (CW.out a1 h1s _).mono ?_; rintro e w3 ⟨rfl, hb3⟩; rw [HY.out]
            have B3 := Lib.hid (B2.out.trans (hb3.mono B2.out.size)); clear hb3
            go_wp2_with fail
            refine (CW.out T hTs _).mono ?_; rintro e w4 ⟨rfl, hb4⟩; rw [HOK.out]
            have B4 := Lib.hid (B3.out.trans (hb4.mono B3.out.size)); clear hb4
            go_wp2_with fail
            refine (C2.out _ B4.out).mono ?_; rintro e w5 ⟨rfl, hb5⟩
            have B5 := Lib.hid (B4.out.trans (hb5.mono B4.out.size)); clear hb5
            go_wp2_with fail
            go_ret
            exact ⟨rfl, B5.out⟩
        · have hTe : T = a0 := by
            rw [hTT, mend_whole a0 a1 hw]
          have HW := Lib.hid hw
          clear hw hTT hTd hTs
          subst hTe
          go_enter Tryd.func3, Tryd.ntmps3
          go_wp2_with fail
          refine (C1.out _ (Below.refl _ _)).mono ?_; rintro e w1 ⟨rfl, hb1⟩
          have B1 := Lib.hid hb1; clear hb1
          go_wp2_with fail
          refine (CW.out _ h0s _).mono ?_; rintro e w2 ⟨rfl, hb2⟩; rw [HW.out]
          have B2 := Lib.hid (B1.out.trans (hb2.mono B1.out.size)); clear hb2
          go_wp2_with fail
          go_ret
          exact ⟨rfl, B2.out⟩
      · clear har
        go_enter Tryd.func3, Tryd.ntmps3
        go_wp2_with fail
        go_ret
        exact ⟨rfl, Below.refl _ _⟩
    · go_enter Tryd.func3, Tryd.ntmps3
      go_wp2_with fail
      go_ret
      exact ⟨rfl, Below.refl _ _⟩
  · go_enter Tryd.func3, Tryd.ntmps3
    go_wp2_with fail
    go_ret
    exact ⟨rfl, Below.refl _ _⟩

theorem contract (H : Type) (enc : TypeId × Value → H) (W : World) (base : Nat) (args : Array Value) (ds gs : List (DataW H)) (before : List MemPlace)
    (hval0 : ∀ (j : Nat) t v, Tryd.f3.params[j]? = some t → args[j]? = some v → Value.okWide Tryd.prog W .any base t v)
    (hW : DataW.Whole enc Tryd.prog Tryd.f3.params.toList Rows.fnValidAgainSpec.vars false W args.toList ds gs before)
    (hsz0 : (DataW.weightsEach Tryd.prog (Tryd.f3.params.toList ++ Rows.fnValidAgainSpec.plain.varTypes Tryd.prog) (ds ++ gs)).all (· ≤ reachBytes) = true) (hL : laidMetH Tryd.prog Rows.fnValidAgainRow.laid W) :
    Calls Tryd.prog 3 args W fun e W' => ∃ v, e = .returned v ∧ Rows.fnValidAgainSpec.post enc Tryd.prog Tryd.f3 false true false false W args v W' := by
  have hval := hval0
  have hsz := hsz0
  clear hval0 hsz0
  have hW' := hW
  obtain ⟨p, q, hA0, hV, rfl, hfz, hnd⟩ := hW
  have hA : DataW.TrodAll enc Tryd.prog W 0 (fun _ => true) true Tryd.f3.params.toList args.toList ds p := hA0
  rw [Tryd.params3] at hA hval hsz
  obtain ⟨v0, vs0, d0, ds0, p0, q0, hargs, rfl, rfl, h0, r0x⟩ := trodAll_cons hA
  obtain ⟨v1, vs1, d1, ds1, p1, q1, rfl, rfl, rfl, h1, r1x⟩ := trodAll_cons r0x
  obtain ⟨rfl, rfl, rfl⟩ := trodAll_nil r1x
  obtain rfl : args = #[v0, v1] := by cases args; simp_all
  obtain ⟨rfl, rfl⟩ := trodVars_none hV
  obtain ⟨a0, rfl, rfl, rfl, x0⟩ := open_string Tryd.underlying9 (hval 0 9 v0 rfl rfl) h0
  obtain ⟨a1, rfl, rfl, rfl, x1⟩ := open_string Tryd.underlying9 (hval 1 9 v1 rfl rfl) h1
  clear hA0
  have w0 : a0.size ≤ 140737488351232 := by have := sized_string hsz (j := 0) (t := 9) rfl rfl; simpa [reachBytes] using this
  have w1 : a1.size ≤ 140737488351232 := by have := sized_string hsz (j := 1) (t := 9) rfl rfl; simpa [reachBytes] using this
  refine (walk a0 a1 W w0 w1 (tabs_of hL (by unfold Rows.fnValidAgainRow; simp) (by unfold Rows.fnValidAgainRow; simp))).mono fun e W' ⟨he, bel⟩ => ?_
  subst he
  exact ⟨_, rfl, _, _, _, [], _, [], hW', trodAll_mk1 (shut_bool Tryd.underlying4 _), (trodAll_cons_mk (shut_string Tryd.underlying9 x0) (trodAll_cons_mk (shut_string Tryd.underlying9 x1) trodAll_mk0)), rfl, bel.frame _, fun h => by cases h⟩

theorem laid_met (os : Os) : laidMet Tryd.prog Rows.fnValidAgainRow.laid ((laidWorld os).forCall (fun _ _ => 0) ⟨#[], #[.string ByteArray.empty, .string ByteArray.empty], []⟩).memory :=
  laidMet_of_run' 8 (by kernel_rfl) (by kernel_rfl)
theorem reads (os : Os) {H : Type} (enc : TypeId × Value → H) : ∃ places, DataW.whole enc Tryd.prog ((laidWorld os).forCall (fun _ _ => 0) ⟨#[], #[.string ByteArray.empty, .string ByteArray.empty], []⟩).memory Tryd.f3.params.toList Rows.fnValidAgainSpec.vars false (#[.string ByteArray.empty, .string ByteArray.empty] : Array Value).toList 8 = some ([.lit (.string []), .lit (.string [])], [], places) :=
  ⟨[], by kernel_rfl⟩
set_option maxRecDepth 100000 in
theorem lifted (os : Os) (started : os.Started) (H : Type) (enc : TypeId × Value → H) (F : Stop.Interp) :
    ReturnsInHanded {} Tryd.checked os 3 .any ((OpenSpec.ofChange Rows.fnValidAgainSpec).preRow enc Tryd.prog Tryd.f3 Rows.fnValidAgainRow.domain false Rows.fnValidAgainRow.laid) (((OpenSpec.ofChange Rows.fnValidAgainSpec).at F).post enc Tryd.prog Tryd.f3 false true false false) := by
  obtain ⟨places, hx⟩ := reads os enc
  refine returnsInHanded_of_row (C := Tryd.checked) (s := OpenSpec.ofChange Rows.fnValidAgainSpec) own started (by kernel_rfl) Tryd.func3
    (witness_row_at (enc := enc) (C := Tryd.checked) false (laidWorld os) #[.string ByteArray.empty, .string ByteArray.empty] rfl (by kernel_rfl) (by kernel_rfl) (by kernel_rfl)
      (OpenSpec.preRow_of_cond 8 hx (by kernel_rfl) (fun k hk => by cases hk) (by kernel_rfl) (laid_met os))) ?_
  intro W base args ds gs before hval0 hW _ hcond hsz0 hL _ _
  exact contract H enc W base args ds gs before hval0 hW hsz0 hL

theorem said : Rows.FnValidAgainSaid :=
  OpenClaim.holds_of_cond 3 Tryd.f3 rfl rfl rfl rfl rfl rfl rfl ⟨rfl, rfl, rfl, rfl, rfl⟩ rfl rfl rfl rfl rfl (by kernel_rfl) Tryd.func3 (by kernel_rfl)
    (of_decide_eq_true (by kernel_rfl)) (by unfold Func.isWrapper; first | (rw [if_pos (by decide +kernel)]; kernel_rfl) | (rw [if_neg (by decide +kernel)]; exact ⟨rfl, rfl⟩))
    (fun os started H enc _ F => by rw [OpenClaim.pre_eq_preRow]; exact lifted os started H enc F)

theorem plain (f : FuncId) (fn : Func) (hf : Tryd.pinned.checked.prog.funcNamed Rows.fnValidAgainRow.func = some f) (hfn : Tryd.pinned.checked.prog.funcs[f]? = some fn) :
    false = Tryd.pinned.checked.prog.looks [] ∧ ∀ (j : Nat) t, fn.params[j]? = some t → Tryd.pinned.checked.prog.wantsStandIn t = false := by
  obtain rfl : f = 3 := Option.some.inj ((show Tryd.prog.funcNamed Rows.fnValidAgainRow.func = some 3 by kernel_rfl).symm.trans hf) |>.symm
  obtain rfl : fn = Tryd.f3 := (Option.some.inj (Tryd.func3.symm.trans hfn)).symm
  refine ⟨by kernel_rfl, fun j t ht => ?_⟩
  rw [Tryd.params3] at ht
  have hm := Array.mem_of_getElem? ht
  simp only [List.mem_toArray, List.mem_cons, List.mem_nil_iff, or_false] at hm
  rcases hm with rfl | rfl
  · exact (show Tryd.prog.wantsStandIn 9 = false by kernel_rfl)
  · exact (show Tryd.prog.wantsStandIn 9 = false by kernel_rfl)

theorem proved : Rows.FnValidAgainCardSaid :=
  Claim7.holds_tied_plain_at .later [] _ _ _ _ said (fun _ h => by cases h) (by kernel_rfl) (fun _ h => by cases h) fnValidAgain_row_tie rfl ⟨rfl, rfl⟩ (by kernel_rfl) rfl plain (by kernel_rfl)
#print axioms proved
end Go.Proofs.YtapdpkojjkbccaaDoor.fnValidAgain
