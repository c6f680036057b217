/-
  For every three texts the law FnEqualFoldSame returns true and changes nothing: EqualFold is an equivalence. No condition.
-/
import Derived.Test.YtlgibcphfmjddaaDoorCards
import Derived.Test.YtlgibcphfmjddaaDoorTie
import Derived.Test.YtlgibcphfmjddaaDoorTabs
import Derived.Test.YtlgibcphfmjddaaDoorFoldW
import Derived.WalkKit
import Derived.ProofKit
import Derived.OpenShut
import Derived.ShutString
import Derived.ChangeOld
import Derived.Below
import Derived.SizedLaws
import Derived.Lib.SmallJoins
import Derived.Deep.CondSized
import Derived.Deep.DeepHandedRow
import Derived.Deep.DeepWitnessRowRef
namespace Go.Proofs.YtlgibcphfmjddaaDoor.fnEqualFoldSame
open Go.ChangeShapes Go.WideShapes Go.ChangeAt Go.RowKit Go.Joins
open Go.ChangeMaps (open_string shut_string)
set_option linter.unusedVariables false

theorem own : ownKnob Tryd.prog.godebug = none := by kernel_rfl
theorem laidOut : laidOutB Tryd.prog = true := by kernel_rfl
set_option maxRecDepth 100000 in
set_option maxHeartbeats 4000000 in
theorem walk (a0 : ByteArray) (a1 : ByteArray) (a2 : ByteArray) (w : World) (w0 : a0.size ≤ 140737488351232) (w1 : a1.size ≤ 140737488351232) (w2 : a2.size ≤ 140737488351232) (hT : Tabs w) (hF : Folds w) :
    Calls Tryd.prog 11 #[.string a0, .string a1, .string a2] w fun e w' => e = .returned (.bool true) ∧ Below w.heap.size w w' := by
  have HT := Lib.hid hT; have HF := Lib.hid hF; clear hT hF
  have C := Lib.hid (fun (s t : ByteArray) (hs : s.size ≤ 140737488351232) (ht : t.size ≤ 140737488351232) (W : World) (hb : Below w.heap.size w W) => impl_EqualFold s t W hs ht (HT.out.below hb) (HF.out.below hb))
  have hr0 : eqF a0.data.toList a0.data.toList = true := eqL_refl _
  have hsy : eqF a1.data.toList a0.data.toList = eqF a0.data.toList a1.data.toList := eqL_symm _ _
  have htr := eqL_trans (rn a0.data.toList) (rn a1.data.toList) (rn a2.data.toList)
  change eqF a0.data.toList a1.data.toList = true → eqF a1.data.toList a2.data.toList = true → eqF a0.data.toList a2.data.toList = true at htr
  have C00 := Lib.hid (fun (W : World) (hb : Below w.heap.size w W) => C.out a0 a0 w0 w0 W hb)
  have C01 := Lib.hid (fun (W : World) (hb : Below w.heap.size w W) => C.out a0 a1 w0 w1 W hb)
  have C10 := Lib.hid (fun (W : World) (hb : Below w.heap.size w W) => C.out a1 a0 w1 w0 W hb)
  have C12 := Lib.hid (fun (W : World) (hb : Below w.heap.size w W) => C.out a1 a2 w1 w2 W hb)
  have C02 := Lib.hid (fun (W : World) (hb : Below w.heap.size w W) => C.out a0 a2 w0 w2 W hb)
  rw [hr0] at C00
  rw [hsy] at C10
  clear hr0 hsy C
  generalize eqF a0.data.toList a1.data.toList = x at *
  generalize eqF a1.data.toList a2.data.toList = y at *
  generalize eqF a0.data.toList a2.data.toList = z at *
  have hxx : (x == x) = true := by simp
  cases x
  · clear htr
    go_enter Tryd.func11, Tryd.ntmps11
    go_wp2_with fail
    refine (C00.out _ (Below.refl _ w)).mono ?_; rintro e w3 ⟨rfl, hb3⟩
    have B3 := Lib.hid hb3; clear hb3
    go_wp2_with fail
    refine (C01.out _ B3.out).mono ?_; rintro e w4 ⟨rfl, hb4⟩
    have B4 := Lib.hid (B3.out.trans (hb4.mono B3.out.size)); clear hb4
    go_wp2_with fail
    refine (C10.out _ B4.out).mono ?_; rintro e w5 ⟨rfl, hb5⟩
    have B5 := Lib.hid (B4.out.trans (hb5.mono B4.out.size)); clear hb5
    go_wp2_with fail
    refine (C01.out _ B5.out).mono ?_; rintro e w6 ⟨rfl, hb6⟩
    have B6 := Lib.hid (B5.out.trans (hb6.mono B5.out.size)); clear hb6
    go_wp2_with fail
    go_ret
    exact ⟨rfl, B6.out⟩
  · cases y
    · clear htr
      go_enter Tryd.func11, Tryd.ntmps11
      go_wp2_with fail
      refine (C00.out _ (Below.refl _ w)).mono ?_; rintro e w3 ⟨rfl, hb3⟩
      have B3 := Lib.hid hb3; clear hb3
      go_wp2_with fail
      refine (C01.out _ B3.out).mono ?_; rintro e w4 ⟨rfl, hb4⟩
      have B4 := Lib.hid (B3.out.trans (hb4.mono B3.out.size)); clear hb4
      go_wp2_with fail
      refine (C10.out _ B4.out).mono ?_; rintro e w5 ⟨rfl, hb5⟩
      have B5 := Lib.hid (B4.out.trans (hb5.mono B4.out.size)); clear hb5
      go_wp2_with fail
      refine (C01.out _ B5.out).mono ?_; rintro e w6 ⟨rfl, hb6⟩
      have B6 := Lib.hid (B5.out.trans (hb6.mono B5.out.size)); clear hb6
      go_wp2_with fail
      refine (C12.out _ B6.out).mono ?_; rintro e w7 ⟨rfl, hb7⟩
      have B7 := Lib.hid (B6.out.trans (hb7.mono B6.out.size)); clear hb7
      go_wp2_with fail
      go_ret
      exact ⟨rfl, B7.out⟩
    · obtain rfl : z = true := htr rfl rfl
      clear htr
      go_enter Tryd.func11, Tryd.ntmps11
      go_wp2_with fail
      refine (C00.out _ (Below.refl _ w)).mono ?_; rintro e w3 ⟨rfl, hb3⟩
      have B3 := Lib.hid hb3; clear hb3
      go_wp2_with fail
      refine (C01.out _ B3.out).mono ?_; rintro e w4 ⟨rfl, hb4⟩
      have B4 := Lib.hid (B3.out.trans (hb4.mono B3.out.size)); clear hb4
      go_wp2_with fail
      refine (C10.out _ B4.out).mono ?_; rintro e w5 ⟨rfl, hb5⟩
      have B5 := Lib.hid (B4.out.trans (hb5.mono B4.out.size)); clear hb5
      go_wp2_with fail
      refine (C01.out _ B5.out).mono ?_; rintro e w6 ⟨rfl, hb6⟩
      have B6 := Lib.hid (B5.out.trans (hb6.mono B5.out.size)); clear hb6
      go_wp2_with fail
      refine (C12.out _ B6.out).mono ?_; rintro e w7 ⟨rfl, hb7⟩
      have B7 := Lib.hid (B6.out.trans (hb7.mono B6.out.size)); clear hb7
      go_wp2_with fail
      refine (C02.out _ B7.out).mono ?_; rintro e w8 ⟨rfl, hb8⟩
      have B8 := Lib.hid (B7.out.trans (hb8.mono B7.out.size)); clear hb8
      go_wp2_with fail
      go_ret
      exact ⟨rfl, B8.out⟩

set_option maxRecDepth 100000 in
theorem contract (H : Type) (enc : TypeId × Value → H) (W : World) (base : Nat) (args : Array Value) (ds gs : List (DataW H)) (before : List MemPlace)
    (hval0 : ∀ (j : Nat) t v, Tryd.f11.params[j]? = some t → args[j]? = some v → Value.okWide Tryd.prog W .any base t v)
    (hW : DataW.Whole enc Tryd.prog Tryd.f11.params.toList Rows.fnEqualFoldSameSpec.vars false W args.toList ds gs before)
    (hsz0 : (DataW.weightsEach Tryd.prog (Tryd.f11.params.toList ++ Rows.fnEqualFoldSameSpec.plain.varTypes Tryd.prog) (ds ++ gs)).all (· ≤ reachBytes) = true) (hL : laidMetH Tryd.prog Rows.fnEqualFoldSameRow.laid W) :
    Calls Tryd.prog 11 args W fun e W' => ∃ v, e = .returned v ∧ Rows.fnEqualFoldSameSpec.post enc Tryd.prog Tryd.f11 false true false false W args v W' := by
  have hval := hval0
  have hsz := hsz0
  clear hval0 hsz0
  have hW' := hW
  obtain ⟨p, q, hA0, hV, rfl, hfz, hnd⟩ := hW
  have hA : DataW.TrodAll enc Tryd.prog W 0 (fun _ => true) true Tryd.f11.params.toList args.toList ds p := hA0
  rw [Tryd.params11] at hA hval hsz
  obtain ⟨v0, vs0, d0, ds0, p0, q0, hargs, rfl, rfl, h0, r0x⟩ := trodAll_cons hA
  obtain ⟨v1, vs1, d1, ds1, p1, q1, rfl, rfl, rfl, h1, r1x⟩ := trodAll_cons r0x
  obtain ⟨v2, vs2, d2, ds2, p2, q2, rfl, rfl, rfl, h2, r2x⟩ := trodAll_cons r1x
  obtain ⟨rfl, rfl, rfl⟩ := trodAll_nil r2x
  obtain rfl : args = #[v0, v1, v2] := by cases args; simp_all
  obtain ⟨rfl, rfl⟩ := trodVars_none hV
  obtain ⟨a0, rfl, rfl, rfl, x0⟩ := open_string Tryd.underlying9 (hval 0 9 v0 rfl rfl) h0
  obtain ⟨a1, rfl, rfl, rfl, x1⟩ := open_string Tryd.underlying9 (hval 1 9 v1 rfl rfl) h1
  obtain ⟨a2, rfl, rfl, rfl, x2⟩ := open_string Tryd.underlying9 (hval 2 9 v2 rfl rfl) h2
  clear hA0
  have w0 : a0.size ≤ 140737488351232 := by have := sized_string hsz (j := 0) (t := 9) rfl rfl; simpa [reachBytes] using this
  have w1 : a1.size ≤ 140737488351232 := by have := sized_string hsz (j := 1) (t := 9) rfl rfl; simpa [reachBytes] using this
  have w2 : a2.size ≤ 140737488351232 := by have := sized_string hsz (j := 2) (t := 9) rfl rfl; simpa [reachBytes] using this
  refine (walk a0 a1 a2 W w0 w1 w2 (tabs_of hL (by unfold Rows.fnEqualFoldSameRow; simp) (by unfold Rows.fnEqualFoldSameRow; simp)) (folds_of hL (by unfold Rows.fnEqualFoldSameRow; simp) (by unfold Rows.fnEqualFoldSameRow; simp) (by unfold Rows.fnEqualFoldSameRow; simp))).mono fun e W' ⟨he, bel⟩ => ?_
  subst he
  exact ⟨_, rfl, _, _, _, [], _, [], hW', trodAll_mk1 (shut_bool Tryd.underlying4 _), (trodAll_cons_mk (shut_string Tryd.underlying9 x0) (trodAll_cons_mk (shut_string Tryd.underlying9 x1) (trodAll_cons_mk (shut_string Tryd.underlying9 x2) trodAll_mk0))), rfl, bel.frame _, fun h => by cases h⟩

theorem laid_met (os : Os) : laidMet Tryd.prog Rows.fnEqualFoldSameRow.laid ((laidWorldF os).forCall (fun _ _ => 0) ⟨#[], #[.string ByteArray.empty, .string ByteArray.empty, .string ByteArray.empty], []⟩).memory :=
  laidF_met os _
theorem reads (os : Os) {H : Type} (enc : TypeId × Value → H) : ∃ places, DataW.whole enc Tryd.prog ((laidWorldF os).forCall (fun _ _ => 0) ⟨#[], #[.string ByteArray.empty, .string ByteArray.empty, .string ByteArray.empty], []⟩).memory Tryd.f11.params.toList Rows.fnEqualFoldSameSpec.vars false (#[.string ByteArray.empty, .string ByteArray.empty, .string ByteArray.empty] : Array Value).toList 8 = some ([.lit (.string []), .lit (.string []), .lit (.string [])], [], places) :=
  ⟨[], by kernel_rfl⟩
set_option maxRecDepth 100000 in
theorem lifted (os : Os) (started : os.Started) (H : Type) (enc : TypeId × Value → H) (F : Stop.Interp) :
    ReturnsInHanded {} Tryd.checked os 11 .any ((OpenSpec.ofChange Rows.fnEqualFoldSameSpec).preRow enc Tryd.prog Tryd.f11 Rows.fnEqualFoldSameRow.domain false Rows.fnEqualFoldSameRow.laid) (((OpenSpec.ofChange Rows.fnEqualFoldSameSpec).at F).post enc Tryd.prog Tryd.f11 false true false false) := by
  obtain ⟨places, hx⟩ := reads os enc
  refine returnsInHanded_of_row (C := Tryd.checked) (s := OpenSpec.ofChange Rows.fnEqualFoldSameSpec) own started (by kernel_rfl) Tryd.func11
    (witness_row_atRef (enc := enc) (C := Tryd.checked) false (laidWorldF os) #[.string ByteArray.empty, .string ByteArray.empty, .string ByteArray.empty] rfl (by kernel_rfl) (by kernel_rfl) (by kernel_rfl)
      (OpenSpec.preRow_of_cond 8 hx (by kernel_rfl) (fun k hk => by cases hk) (by kernel_rfl) (laid_met os))) ?_
  intro W base args ds gs before hval0 hW _ hcond hsz0 hL _ _
  exact contract H enc W base args ds gs before hval0 hW hsz0 hL

theorem said : Rows.FnEqualFoldSameSaid :=
  OpenClaim.holds_of_cond 11 Tryd.f11 rfl rfl rfl rfl rfl rfl rfl ⟨rfl, rfl, rfl, rfl, rfl⟩ rfl rfl rfl rfl rfl (by kernel_rfl) Tryd.func11 (by kernel_rfl)
    (of_decide_eq_true (by kernel_rfl)) (by unfold Func.isWrapper; first | (rw [if_pos (by decide +kernel)]; kernel_rfl) | (rw [if_neg (by decide +kernel)]; exact ⟨rfl, rfl⟩))
    (fun os started H enc _ F => by rw [OpenClaim.pre_eq_preRow]; exact lifted os started H enc F)

theorem plain (f : FuncId) (fn : Func) (hf : Tryd.pinned.checked.prog.funcNamed Rows.fnEqualFoldSameRow.func = some f) (hfn : Tryd.pinned.checked.prog.funcs[f]? = some fn) :
    false = Tryd.pinned.checked.prog.looks [] ∧ ∀ (j : Nat) t, fn.params[j]? = some t → Tryd.pinned.checked.prog.wantsStandIn t = false := by
  obtain rfl : f = 11 := Option.some.inj ((show Tryd.prog.funcNamed Rows.fnEqualFoldSameRow.func = some 11 by kernel_rfl).symm.trans hf) |>.symm
  obtain rfl : fn = Tryd.f11 := (Option.some.inj (Tryd.func11.symm.trans hfn)).symm
  refine ⟨by kernel_rfl, fun j t ht => ?_⟩
  rw [Tryd.params11] at ht
  have hm := Array.mem_of_getElem? ht
  simp only [List.mem_toArray, List.mem_cons, List.mem_nil_iff, or_false] at hm
  rcases hm with rfl | rfl | rfl
  · exact (show Tryd.prog.wantsStandIn 9 = false by kernel_rfl)
  · exact (show Tryd.prog.wantsStandIn 9 = false by kernel_rfl)
  · exact (show Tryd.prog.wantsStandIn 9 = false by kernel_rfl)

theorem proved : Rows.FnEqualFoldSameCardSaid :=
  Claim7.holds_tied_plain_at .later [] _ _ _ _ said (fun _ h => by cases h) (by kernel_rfl) (fun _ h => by cases h) fnEqualFoldSame_row_tie rfl ⟨rfl, rfl⟩ (by kernel_rfl) rfl plain (by kernel_rfl)
#print axioms proved
end Go.Proofs.YtlgibcphfmjddaaDoor.fnEqualFoldSame
