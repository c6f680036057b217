/-
  For every text the law FnMapSelf returns true and changes nothing: mapped to itself a well-formed text stays, and any text is well-formed, with as many code points. Condition: what comes in is of bulk at most 1048576 (the second form).
-/
import Derived.Test.YtlgibcphfmjddaaDoorCards
import Derived.Test.YtlgibcphfmjddaaDoorTie
import Derived.Test.YtlgibcphfmjddaaDoorTabs
import Derived.Test.YtlgibcphfmjddaaDoorMapT
import Derived.Test.YtlgibcphfmjddaaDoorMapU
import Derived.Test.YtlgibcphfmjddaaDoorMapP
import Derived.WalkKit
import Derived.ProofKit
import Derived.OpenShut
import Derived.ShutString
import Derived.ChangeOld
import Derived.Below
import Derived.SizedLaws
import Derived.Lib.SmallJoins
import Derived.Deep.CondSized
import Derived.Deep.DeepHandedRow
import Derived.Deep.DeepWitnessRowRef
namespace Go.Proofs.YtlgibcphfmjddaaDoor.fnMapSelfUpto
open Go.ChangeShapes Go.WideShapes Go.ChangeAt Go.RowKit Go.Joins
open Go.ChangeMaps (open_string shut_string)
set_option linter.unusedVariables false

theorem own : ownKnob Tryd.prog.godebug = none := by kernel_rfl
theorem laidOut : laidOutB Tryd.prog = true := by kernel_rfl
theorem img_nil : imgB [] = fun x => x := rfl
theorem lies_nil (w : World) : Lies w w.heap.size 2 none ([] : List (Int × Int)).length (rcells []) := ⟨rfl, fun h => absurd rfl (Nat.ne_of_gt h)⟩
theorem small_nil : Small [] := fun r h => by cases h
set_option maxHeartbeats 1000000 in
theorem walk (a0 : ByteArray) (w : World) (w0 : a0.size ≤ 1048576) (hT : Tabs w) :
    Calls Tryd.prog 5 #[.string a0] w fun e w' => e = .returned (.bool true) ∧ Below w.heap.size w w' := by
  have HT := Lib.hid hT; clear hT
  obtain ⟨T, hTT⟩ : ∃ T : ByteArray, T = ⟨(Lib.mapD (fun x => x) a0.data.toList).toArray⟩ := ⟨_, rfl⟩
  have hTd : T.data.toList = Lib.mapD (fun x => x) a0.data.toList := by rw [hTT]
  have hTs : T.size ≤ 1099511627776 := by
    have := mapped_len (fun x => x) a0.data.toList
    rw [← hTd, len_data, len_data] at this; omega
  have hwT : (chs T.data.toList).all okC = true := by rw [hTd]; exact map_whole _ _
  have hT2 : (⟨(Lib.mapD (fun x => x) T.data.toList).toArray⟩ : ByteArray) = T := by rw [map_self _ hwT]
  have hcT : (pcs 0 T.data.toList).length = (pcs 0 a0.data.toList).length := by rw [pcs_count, pcs_count, hTd, self_count]
  have hsame : T = a0 ↔ (chs a0.data.toList).all okC = true := by
    rw [← self_same, ← hTd]
    exact ⟨fun h => by rw [h], fun h => ByteArray.ext (Array.toList_inj.1 h)⟩
  have CM0 := Lib.hid (fun (W : World) (hb : Below w.heap.size w W) => impl_Map none 0 [] a0 W (by omega) (HT.out.below hb) (lies_nil W) (by simp) small_nil)
  have CMT := Lib.hid (fun (W : World) (hb : Below w.heap.size w W) => impl_Map none 0 [] T W hTs (HT.out.below hb) (lies_nil W) (by simp) small_nil)
  rw [img_nil] at CM0 CMT
  rw [← hTT] at CM0
  rw [hT2] at CMT
  have CN := Lib.hid (fun (W : World) => laws_table_nil W)
  have CP0 := Lib.hid (fun (W : World) => spec_Points a0 W (by omega))
  have CPT := Lib.hid (fun (W : World) => spec_Points T W hTs)
  have CW0 := Lib.hid (fun (W : World) => spec_Whole a0 W (by omega))
  have CWT := Lib.hid (fun (W : World) => spec_Whole T W hTs)
  rw [hwT] at CWT
  obtain ⟨n, hn⟩ : ∃ n, (pcs 0 a0.data.toList).length = n := ⟨_, rfl⟩
  have hn2 : (pcs 0 T.data.toList).length = n := hcT.trans hn
  obtain ⟨bw, hbw⟩ : ∃ b, (chs a0.data.toList).all okC = b := ⟨_, rfl⟩
  rw [hbw] at CW0 hsame
  have HN := Lib.hid hn; have HN2 := Lib.hid hn2
  have heq : (T.toList == a0.toList) = bw := by
    rw [Lib.toList_data, Lib.toList_data]
    cases bw
    · rw [beq_eq_false_iff_ne]; intro h; have := hsame.1 (ByteArray.ext (Array.toList_inj.1 h)); cases this
    · rw [beq_iff_eq, hsame.2 rfl]
  have hbb : (bw == bw) = true := by simp
  clear hTT hTd hwT hT2 hcT hsame hbw hn hn2
  go_enter Tryd.func5, Tryd.ntmps5
  go_wp2_with fail
  refine (CN.out _).mono ?_; rintro e w1 ⟨rfl, hb1⟩
  have B1 := Lib.hid hb1; clear hb1
  go_wp2_with fail
  refine (CM0.out _ B1.out).mono ?_; rintro e w2 ⟨rfl, hb2⟩
  have B2 := Lib.hid (B1.out.trans (hb2.mono B1.out.size)); clear hb2
  go_wp2_with fail
  refine (CWT.out _).mono ?_; rintro e w3 ⟨rfl, hb3⟩
  have B3 := Lib.hid (B2.out.trans (hb3.mono B2.out.size)); clear hb3
  go_wp2_with fail
  refine (CW0.out _).mono ?_; rintro e w4 ⟨rfl, hb4⟩
  have B4 := Lib.hid (B3.out.trans (hb4.mono B3.out.size)); clear hb4
  go_wp2_with fail
  refine (CN.out _).mono ?_; rintro e w5 ⟨rfl, hb5⟩
  have B5 := Lib.hid (B4.out.trans (hb5.mono B4.out.size)); clear hb5
  go_wp2_with fail
  refine (CMT.out _ B5.out).mono ?_; rintro e w6 ⟨rfl, hb6⟩
  have B6 := Lib.hid (B5.out.trans (hb6.mono B5.out.size)); clear hb6
  go_wp2_with fail
  refine (CPT.out _).mono ?_; rintro e w7 ⟨g7, c7, rfl, ho7, hb7⟩; rw [HN2.out]
  have B7 := Lib.hid (B6.out.trans (hb7.mono B6.out.size)); clear hb7 ho7
  go_wp2_with fail
  refine (CP0.out _).mono ?_; rintro e w8 ⟨g8, c8, rfl, ho8, hb8⟩; rw [HN.out]
  have B8 := Lib.hid (B7.out.trans (hb8.mono B7.out.size)); clear hb8 ho8
  go_wp2_with fail
  go_ret
  exact ⟨rfl, B8.out⟩

set_option maxRecDepth 100000 in
theorem contract (H : Type) (enc : TypeId × Value → H) (W : World) (base : Nat) (args : Array Value) (ds gs : List (DataW H)) (before : List MemPlace)
    (hval0 : ∀ (j : Nat) t v, Tryd.f5.params[j]? = some t → args[j]? = some v → Value.okWide Tryd.prog W .any base t v)
    (hW : DataW.Whole enc Tryd.prog Tryd.f5.params.toList Rows.fnMapSelfSpec.vars false W args.toList ds gs before)
    (hsz0 : (DataW.weightsEach Tryd.prog (Tryd.f5.params.toList ++ Rows.fnMapSelfSpec.plain.varTypes Tryd.prog) (ds ++ gs)).all (· ≤ reachBytes) = true) (hk : Rows.uptoSmall H (ds ++ gs) = true) (hL : laidMetH Tryd.prog Rows.fnMapSelfUptoRow.laid W) :
    Calls Tryd.prog 5 args W fun e W' => ∃ v, e = .returned v ∧ Rows.fnMapSelfSpec.post enc Tryd.prog Tryd.f5 false true false false W args v W' := by
  have hval := hval0
  have hsz := hsz0
  clear hval0 hsz0
  have hW' := hW
  obtain ⟨p, q, hA0, hV, rfl, hfz, hnd⟩ := hW
  have hA : DataW.TrodAll enc Tryd.prog W 0 (fun _ => true) true Tryd.f5.params.toList args.toList ds p := hA0
  rw [Tryd.params5] at hA hval hsz
  obtain ⟨v0, vs0, d0, ds0, p0, q0, hargs, rfl, rfl, h0, r0x⟩ := trodAll_cons hA
  obtain ⟨rfl, rfl, rfl⟩ := trodAll_nil r0x
  obtain rfl : args = #[v0] := by cases args; simp_all
  obtain ⟨rfl, rfl⟩ := trodVars_none hV
  have hbulk := of_decide_eq_true hk
  obtain ⟨a0, rfl, rfl, rfl, x0⟩ := open_string Tryd.underlying9 (hval 0 9 v0 rfl rfl) h0
  clear hA0
  have w0 : a0.size ≤ 1048576 := by
    simp only [Rows.uptoBulkAll, Rows.uptoBulk, List.append_nil] at hbulk
    have e : a0.data.toList.length = a0.size := by rw [Array.length_toList]; rfl
    omega
  refine (walk a0 W w0 (tabs_of hL (by unfold Rows.fnMapSelfUptoRow; simp) (by unfold Rows.fnMapSelfUptoRow; simp))).mono fun e W' ⟨he, bel⟩ => ?_
  subst he
  exact ⟨_, rfl, _, _, _, [], _, [], hW', trodAll_mk1 (shut_bool Tryd.underlying4 _), (trodAll_cons_mk (shut_string Tryd.underlying9 x0) trodAll_mk0), rfl, bel.frame _, fun h => by cases h⟩

theorem laid_met (os : Os) : laidMet Tryd.prog Rows.fnMapSelfUptoRow.laid ((laidWorld os).forCall (fun _ _ => 0) ⟨#[], #[.string ByteArray.empty], []⟩).memory :=
  laidMet_of_run' 8 (by kernel_rfl) (by kernel_rfl)
theorem reads (os : Os) {H : Type} (enc : TypeId × Value → H) : ∃ places, DataW.whole enc Tryd.prog ((laidWorld os).forCall (fun _ _ => 0) ⟨#[], #[.string ByteArray.empty], []⟩).memory Tryd.f5.params.toList Rows.fnMapSelfSpec.vars false (#[.string ByteArray.empty] : Array Value).toList 8 = some ([.lit (.string [])], [], places) :=
  ⟨[], by kernel_rfl⟩
set_option maxRecDepth 100000 in
theorem lifted (os : Os) (started : os.Started) (H : Type) (enc : TypeId × Value → H) (F : Stop.Interp) :
    ReturnsInHanded {} Tryd.checked os 5 .any ((Rows.OpenSpec.upto Rows.fnMapSelfSpec).preRow enc Tryd.prog Tryd.f5 Rows.fnMapSelfUptoRow.domain false Rows.fnMapSelfUptoRow.laid) (((Rows.OpenSpec.upto Rows.fnMapSelfSpec).at F).post enc Tryd.prog Tryd.f5 false true false false) := by
  obtain ⟨places, hx⟩ := reads os enc
  refine returnsInHanded_of_row (C := Tryd.checked) (s := Rows.OpenSpec.upto Rows.fnMapSelfSpec) own started (by kernel_rfl) Tryd.func5
    (witness_row_at (enc := enc) (C := Tryd.checked) false (laidWorld os) #[.string ByteArray.empty] rfl (by kernel_rfl) (by kernel_rfl) (by kernel_rfl)
      (OpenSpec.preRow_of_cond 8 hx (by kernel_rfl) (fun k hk => by cases hk; kernel_rfl) (by kernel_rfl) (laid_met os))) ?_
  intro W base args ds gs before hval0 hW _ hcond hsz0 hL _ _
  exact contract H enc W base args ds gs before hval0 hW hsz0 (hcond _ rfl) hL

theorem said : Rows.FnMapSelfUptoSaid :=
  OpenClaim.holds_of_cond 5 Tryd.f5 rfl rfl rfl rfl rfl rfl rfl ⟨rfl, rfl, rfl, rfl, rfl⟩ rfl rfl rfl rfl rfl (by kernel_rfl) Tryd.func5 (by kernel_rfl)
    (of_decide_eq_true (by kernel_rfl)) (by unfold Func.isWrapper; first | (rw [if_pos (by decide +kernel)]; kernel_rfl) | (rw [if_neg (by decide +kernel)]; exact ⟨rfl, rfl⟩))
    (fun os started H enc _ F => by rw [OpenClaim.pre_eq_preRow]; exact lifted os started H enc F)

theorem plain (f : FuncId) (fn : Func) (hf : Tryd.pinned.checked.prog.funcNamed Rows.fnMapSelfUptoRow.func = some f) (hfn : Tryd.pinned.checked.prog.funcs[f]? = some fn) :
    false = Tryd.pinned.checked.prog.looks [] ∧ ∀ (j : Nat) t, fn.params[j]? = some t → Tryd.pinned.checked.prog.wantsStandIn t = false := by
  obtain rfl : f = 5 := Option.some.inj ((show Tryd.prog.funcNamed Rows.fnMapSelfUptoRow.func = some 5 by kernel_rfl).symm.trans hf) |>.symm
  obtain rfl : fn = Tryd.f5 := (Option.some.inj (Tryd.func5.symm.trans hfn)).symm
  refine ⟨by kernel_rfl, fun j t ht => ?_⟩
  rw [Tryd.params5] at ht
  have hm := Array.mem_of_getElem? ht
  simp only [List.mem_toArray, List.mem_cons, List.mem_nil_iff, or_false] at hm
  subst hm
  exact (show Tryd.prog.wantsStandIn 9 = false by kernel_rfl)

theorem proved : Rows.FnMapSelfUptoCardSaid :=
  Claim7.holds_tied_plain_at .later [] _ _ _ _ said (fun _ h => by cases h) (by kernel_rfl) (fun _ h => by cases h) fnMapSelfUpto_row_tie rfl ⟨rfl, rfl⟩ (by kernel_rfl) rfl plain (by kernel_rfl)
#print axioms proved
end Go.Proofs.YtlgibcphfmjddaaDoor.fnMapSelfUpto
