/-
  For every text and table the law FnExactMap returns true and changes nothing: strings.Map answers as the reference does. No condition.
-/
import Derived.Test.YtlgibcphfmjddaaDoorCards
import Derived.Test.YtlgibcphfmjddaaDoorTie
import Derived.Test.YtlgibcphfmjddaaDoorTabs
import Derived.Test.YtlgibcphfmjddaaDoorMapT
import Derived.Test.YtlgibcphfmjddaaDoorTabIn
import Derived.Deep.RegionHeld3
import Derived.WalkKit
import Derived.ProofKit
import Derived.OpenShut
import Derived.ShutString
import Derived.ChangeOld
import Derived.Below
import Derived.SizedLaws
import Derived.Lib.SmallJoins
import Derived.Deep.CondSized
import Derived.Deep.DeepHandedRow
import Derived.Deep.DeepWitnessRowRef
namespace Go.Proofs.YtlgibcphfmjddaaDoor.fnExactMap
open Go.ChangeShapes Go.WideShapes Go.ChangeAt Go.RowKit Go.Joins
open Go.ChangeMaps (open_string shut_string)
set_option linter.unusedVariables false

theorem own : ownKnob Tryd.prog.godebug = none := by kernel_rfl
theorem laidOut : laidOutB Tryd.prog = true := by kernel_rfl
set_option maxRecDepth 100000 in
set_option maxHeartbeats 4000000 in
theorem walk (a0 : ByteArray) (a1 : Option Addr) (len1 cap1 : Nat) (z1 : List (Int × Int)) (w : World) (w0 : a0.size ≤ 140737488351232) (w1 : Lies w w.heap.size 2 a1 len1 (rcells z1)) (s1 : Small z1) (r1 : len1 ≤ 17592186044416) (hT : Tabs w) :
    Calls Tryd.prog 3 #[.string a0, .agg #[.slice a1 len1 cap1]] w fun e w' => e = .returned (.bool true) ∧ Below w.heap.size w w' := by
  have HT := Lib.hid hT; clear hT
  have hzl : z1.length = len1 := by have := w1.1; rw [rcells_len] at this; omega
  subst hzl
  have HW := Lib.hid w1; have HSM := Lib.hid s1
  have HB0 := Lib.hid (show Below w.heap.size w (w.alloc (.cells #[.slice a1 z1.length cap1] 24)) from (Below.refl _ w).alloc (Nat.le_refl _) _)
  have HX0 := Lib.hid (Box.new w 24 #[.slice a1 z1.length cap1])
  clear w1 s1
  by_cases h1 : a0.size ≤ 1048576
  · by_cases h2 : z1.length ≤ 1048576
    · have C1 := Lib.hid (fun (W : World) => laws_szTable_yes a1 z1.length cap1 W h2)
      have CT := Lib.hid (fun (W : World) (hb : Below w.heap.size w W) => laws_toTable a1 z1.length cap1 z1 W (HW.out.later hb) (by omega))
      have CS := Lib.hid (fun (a : Option Addr) (c : Nat) (W : World) (h : Lies W W.heap.size 2 a z1.length (rcells z1)) => spec_Map a c z1 a0 W (by omega) h (by omega) HSM.out)
      have CM := Lib.hid (fun (a : Option Addr) (c : Nat) (W : World) (hb : Below w.heap.size w W) (h : Lies W W.heap.size 2 a z1.length (rcells z1)) => impl_Map a c z1 a0 W (by omega) (HT.out.below hb) h (by omega) HSM.out)
      have CE := Lib.hid (fun (a b : Option Addr) (c d : Nat) (W : World) (ha : Lies W W.heap.size 2 a z1.length (rcells z1)) (hb : Lies W W.heap.size 2 b z1.length (rcells z1)) => laws_eqTable a b c d z1 W ha hb (by omega))
      obtain ⟨T, hTT⟩ : ∃ T : ByteArray, (⟨(Lib.mapD (imgB z1) a0.data.toList).toArray⟩ : ByteArray) = T := ⟨_, rfl⟩
      rw [hTT] at CS CM
      clear hTT
      go_enter Tryd.func3, Tryd.ntmps3
      go_wp2_with fail
      generalize w.alloc (.cells #[.slice a1 z1.length cap1] 24) = wa at *
      refine (C1.out _).mono ?_; rintro e w1 ⟨rfl, hb1⟩
      have B1 := Lib.hid (HB0.out.trans (hb1.mono HB0.out.size)); have X1 := Lib.hid (HX0.out.later hb1); clear hb1 HB0 HX0
      have x1 : w1.cell? ⟨w.heap.size, 0, none⟩ = some (.slice a1 z1.length cap1) := X1.out.cell 0
      go_wp2_with fail
      refine (CT.out _ B1.out).mono ?_; rintro e w2 ⟨ta, tc, rfl, hl2, hb2⟩
      have B2 := Lib.hid (B1.out.trans (hb2.mono B1.out.size)); have X2 := Lib.hid (X1.out.later hb2); have L2 := Lib.hid hl2; clear hb2 hl2 B1 X1 x1
      go_wp2_with fail
      refine (CS.out ta tc _ L2.out).mono ?_; rintro e w3 ⟨rfl, hb3⟩
      have B3 := Lib.hid (B2.out.trans (hb3.mono B2.out.size)); have X3 := Lib.hid (X2.out.later hb3); clear hb3 B2 X2 L2
      have x3 : w3.cell? ⟨w.heap.size, 0, none⟩ = some (.slice a1 z1.length cap1) := X3.out.cell 0
      go_wp2_with fail
      refine (CT.out _ B3.out).mono ?_; rintro e w4 ⟨tb, tc2, rfl, hl4, hb4⟩
      have hwa : Below w4.heap.size w4 (w4.alloc (.cells #[.slice tb z1.length tc2] 29)) := (Below.refl _ w4).alloc (Nat.le_refl _) _
      have hb4' := B3.out.trans (hb4.mono B3.out.size)
      have B5 := Lib.hid (hb4'.trans (hwa.mono hb4'.size)); have X5 := Lib.hid ((X3.out.later hb4).later hwa); have L5 := Lib.hid (hl4.later hwa); have Y5 := Lib.hid (Box.new w4 29 #[.slice tb z1.length tc2])
      clear hb4 hl4 hb4' hwa B3 X3 x3
      go_wp2_with fail
      generalize w4.heap.size = Y at *
      generalize w4.alloc (.cells #[.slice tb z1.length tc2] 29) = w5 at *
      refine (CM.out tb tc2 _ B5.out L5.out).mono ?_; rintro e w6 ⟨rfl, hb6⟩
      have B6 := Lib.hid (B5.out.trans (hb6.mono B5.out.size)).drew
      have X6 : Hid (Box w6.drew w.heap.size 24 #[.slice a1 z1.length cap1]) := X5.out.later hb6.drew
      have Y6 : Hid (Box w6.drew Y 29 #[.slice tb z1.length tc2]) := Y5.out.later hb6.drew
      have L6 : Hid (Lies w6.drew w6.drew.heap.size 2 tb z1.length (rcells z1)) := L5.out.later hb6.drew
      clear hb6 B5 X5 Y5 L5
      have x6 : w6.cell? ⟨w.heap.size, 0, none⟩ = some (.slice a1 z1.length cap1) := X6.out.cell 0
      have y6 : w6.cell? ⟨Y, 0, none⟩ = some (.slice tb z1.length tc2) := Y6.out.cell 0
      have xl : w.heap.size < w6.heap.size := X6.out.lt
      have yl : Y < w6.heap.size := Y6.out.lt
      go_wp2_with fail
      go_region_held3 (fun w' => w'.cell? ⟨w.heap.size, 0, none⟩ = some (.slice a1 z1.length cap1) ∧ w'.cell? ⟨Y, 0, none⟩ = some (.slice tb z1.length tc2)) (first | go_keep | exact ⟨X6.out.cell 0, Y6.out.cell 0⟩)
        (first
          | (go_at_call 16; refine (CT.out _ (by exact B6.out)).mono ?_; rintro e w7 ⟨td, tc3, rfl, hl7, hb7⟩; have B6 := Lib.hid (B6.out.trans (hb7.mono B6.out.size)); have L6 := Lib.hid (L6.out.later hb7); have L7 := Lib.hid hl7; have X6 := Lib.hid (X6.out.later hb7); have Y6 := Lib.hid (Y6.out.later hb7); clear hb7 hl7)
          | (go_at_call 18; refine (CE.out tb td tc2 tc3 _ (by exact L6.out) (by exact L7.out)).mono ?_; rintro e w8 ⟨rfl, hb8⟩; have B6 := Lib.hid (B6.out.trans (hb8.mono B6.out.size)); have X6 := Lib.hid (X6.out.later hb8); have Y6 := Lib.hid (Y6.out.later hb8); clear hb8))
      go_wp2_with fail
      go_ret
      exact ⟨rfl, B6.out⟩
    · have C1 := Lib.hid (fun (W : World) => laws_szTable_no a1 z1.length cap1 W (by omega) (by omega))
      go_enter Tryd.func3, Tryd.ntmps3
      go_wp2_with fail
      refine (C1.out _).mono ?_; rintro e w1 ⟨rfl, hb1⟩
      have B1 := Lib.hid (HB0.out.trans (hb1.mono HB0.out.size)); clear hb1
      go_wp2_with fail
      go_ret
      exact ⟨rfl, B1.out⟩
  · go_enter Tryd.func3, Tryd.ntmps3
    go_wp2_with fail
    go_ret
    exact ⟨rfl, HB0.out⟩

set_option maxRecDepth 100000 in
theorem contract (H : Type) (enc : TypeId × Value → H) (W : World) (base : Nat) (args : Array Value) (ds gs : List (DataW H)) (before : List MemPlace)
    (hval0 : ∀ (j : Nat) t v, Tryd.f3.params[j]? = some t → args[j]? = some v → Value.okWide Tryd.prog W .any base t v)
    (hW : DataW.Whole enc Tryd.prog Tryd.f3.params.toList Rows.fnExactMapSpec.vars false W args.toList ds gs before)
    (hsz0 : (DataW.weightsEach Tryd.prog (Tryd.f3.params.toList ++ Rows.fnExactMapSpec.plain.varTypes Tryd.prog) (ds ++ gs)).all (· ≤ reachBytes) = true) (hL : laidMetH Tryd.prog Rows.fnExactMapRow.laid W) :
    Calls Tryd.prog 3 args W fun e W' => ∃ v, e = .returned v ∧ Rows.fnExactMapSpec.post enc Tryd.prog Tryd.f3 false true false false W args v W' := by
  have hval := hval0
  have hsz := hsz0
  clear hval0 hsz0
  have hW' := hW
  obtain ⟨p, q, hA0, hV, rfl, hfz, hnd⟩ := hW
  have hA : DataW.TrodAll enc Tryd.prog W 0 (fun _ => true) true Tryd.f3.params.toList args.toList ds p := hA0
  rw [Tryd.params3] at hA hval hsz
  obtain ⟨v0, vs0, d0, ds0, p0, q0, hargs, rfl, rfl, h0, r0x⟩ := trodAll_cons hA
  obtain ⟨v1, vs1, d1, ds1, p1, q1, rfl, rfl, rfl, h1, r1x⟩ := trodAll_cons r0x
  obtain ⟨rfl, rfl, rfl⟩ := trodAll_nil r1x
  obtain rfl : args = #[v0, v1] := by cases args; simp_all
  obtain ⟨rfl, rfl⟩ := trodVars_none hV
  obtain ⟨a0, rfl, rfl, rfl, x0⟩ := open_string Tryd.underlying9 (hval 0 9 v0 rfl rfl) h0
  have k1 := h1
  have lt1 : ∀ x ∈ p1, x.block < W.heap.size := by obtain ⟨m, hm⟩ := k1; exact DataW.trod_lt m _ _ _ hm
  obtain ⟨c0, y0, fuel1, rfl, rfl, rfl, hy0⟩ := open_agg1 Tryd.underlying24 rfl (by kernel_rfl) (by kernel_rfl) (hval 1 24 v1 rfl rfl) h1
  obtain ⟨a1, len1, cap1, z1, e1, w1, s1, hd1⟩ := open_rows hy0
  simp only [List.cons.injEq, and_true] at e1
  subst e1
  have r1 : len1 ≤ 17592186044416 := by
    rcases hd1 with h0 | ⟨e, s, h0, h1⟩
    · omega
    · have hb := sized_table hsz (j := 1) (t := 24) rfl (by rw [← h0]; rfl)
      omega
  clear hA0
  have w0 : a0.size ≤ 140737488351232 := by have := sized_string hsz (j := 0) (t := 9) rfl rfl; simpa [reachBytes] using this
  refine (walk a0 a1 len1 cap1 z1 W w0 w1 s1 r1 (tabs_of hL (by unfold Rows.fnExactMapRow; simp) (by unfold Rows.fnExactMapRow; simp))).mono fun e W' ⟨he, bel⟩ => ?_
  subst he
  exact ⟨_, rfl, _, _, _, [], _, [], hW', trodAll_mk1 (shut_bool Tryd.underlying4 _), (trodAll_cons_mk (shut_string Tryd.underlying9 x0) (trodAll_cons_mk (Below.trod laidOut (by kernel_rfl) (of_decide_eq_true (by kernel_rfl)) k1 bel lt1) trodAll_mk0)), rfl, bel.frame _, fun h => by cases h⟩

theorem laid_met (os : Os) : laidMet Tryd.prog Rows.fnExactMapRow.laid ((laidWorld os).forCall (fun _ _ => 0) ⟨#[], #[.string ByteArray.empty, .agg #[.slice none 0 0]], []⟩).memory :=
  laidMet_of_run' 8 (by kernel_rfl) (by kernel_rfl)
theorem reads (os : Os) {H : Type} (enc : TypeId × Value → H) : ∃ places, DataW.whole enc Tryd.prog ((laidWorld os).forCall (fun _ _ => 0) ⟨#[], #[.string ByteArray.empty, .agg #[.slice none 0 0]], []⟩).memory Tryd.f3.params.toList Rows.fnExactMapSpec.vars false (#[.string ByteArray.empty, .agg #[.slice none 0 0]] : Array Value).toList 8 = some ([.lit (.string []), .agg [.nil]], [], places) :=
  ⟨[], by kernel_rfl⟩
set_option maxRecDepth 100000 in
theorem lifted (os : Os) (started : os.Started) (H : Type) (enc : TypeId × Value → H) (F : Stop.Interp) :
    ReturnsInHanded {} Tryd.checked os 3 .any ((OpenSpec.ofChange Rows.fnExactMapSpec).preRow enc Tryd.prog Tryd.f3 Rows.fnExactMapRow.domain false Rows.fnExactMapRow.laid) (((OpenSpec.ofChange Rows.fnExactMapSpec).at F).post enc Tryd.prog Tryd.f3 false true false false) := by
  obtain ⟨places, hx⟩ := reads os enc
  refine returnsInHanded_of_row (C := Tryd.checked) (s := OpenSpec.ofChange Rows.fnExactMapSpec) own started (by kernel_rfl) Tryd.func3
    (witness_row_at (enc := enc) (C := Tryd.checked) false (laidWorld os) #[.string ByteArray.empty, .agg #[.slice none 0 0]] rfl (by kernel_rfl) (by kernel_rfl) (by kernel_rfl)
      (OpenSpec.preRow_of_cond 8 hx (by kernel_rfl) (fun k hk => by cases hk) (by kernel_rfl) (laid_met os))) ?_
  intro W base args ds gs before hval0 hW _ hcond hsz0 hL _ _
  exact contract H enc W base args ds gs before hval0 hW hsz0 hL

theorem said : Rows.FnExactMapSaid :=
  OpenClaim.holds_of_cond 3 Tryd.f3 rfl rfl rfl rfl rfl rfl rfl ⟨rfl, rfl, rfl, rfl, rfl⟩ rfl rfl rfl rfl rfl (by kernel_rfl) Tryd.func3 (by kernel_rfl)
    (of_decide_eq_true (by kernel_rfl)) (by unfold Func.isWrapper; first | (rw [if_pos (by decide +kernel)]; kernel_rfl) | (rw [if_neg (by decide +kernel)]; exact ⟨rfl, rfl⟩))
    (fun os started H enc _ F => by rw [OpenClaim.pre_eq_preRow]; exact lifted os started H enc F)

theorem plain (f : FuncId) (fn : Func) (hf : Tryd.pinned.checked.prog.funcNamed Rows.fnExactMapRow.func = some f) (hfn : Tryd.pinned.checked.prog.funcs[f]? = some fn) :
    false = Tryd.pinned.checked.prog.looks [] ∧ ∀ (j : Nat) t, fn.params[j]? = some t → Tryd.pinned.checked.prog.wantsStandIn t = false := by
  obtain rfl : f = 3 := Option.some.inj ((show Tryd.prog.funcNamed Rows.fnExactMapRow.func = some 3 by kernel_rfl).symm.trans hf) |>.symm
  obtain rfl : fn = Tryd.f3 := (Option.some.inj (Tryd.func3.symm.trans hfn)).symm
  refine ⟨by kernel_rfl, fun j t ht => ?_⟩
  rw [Tryd.params3] at ht
  have hm := Array.mem_of_getElem? ht
  simp only [List.mem_toArray, List.mem_cons, List.mem_nil_iff, or_false] at hm
  rcases hm with rfl | rfl
  · exact (show Tryd.prog.wantsStandIn 9 = false by kernel_rfl)
  · exact (show Tryd.prog.wantsStandIn 24 = false by kernel_rfl)

theorem proved : Rows.FnExactMapCardSaid :=
  Claim7.holds_tied_plain_at .later [] _ _ _ _ said (fun _ h => by cases h) (by kernel_rfl) (fun _ h => by cases h) fnExactMap_row_tie rfl ⟨rfl, rfl⟩ (by kernel_rfl) rfl plain (by kernel_rfl)
#print axioms proved
end Go.Proofs.YtlgibcphfmjddaaDoor.fnExactMap
