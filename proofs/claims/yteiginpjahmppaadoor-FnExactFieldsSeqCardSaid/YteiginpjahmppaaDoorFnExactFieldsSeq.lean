/-
  For every text the law FnExactFieldsSeq returns true and changes nothing: strings.FieldsSeq answers as the reference does. No condition.
-/
import Derived.Test.YteiginpjahmppaaDoorCards
import Derived.Test.YteiginpjahmppaaDoorTie
import Derived.Test.YteiginpjahmppaaDoorTabs
import Derived.Test.YteiginpjahmppaaDoorSpecFS
import Derived.Test.YteiginpjahmppaaDoorSpaceIt
import Derived.Test.YteiginpjahmppaaDoorRuns2
import Derived.Test.YteiginpjahmppaaDoorStrs
import Derived.WalkKit
import Derived.ProofKit
import Derived.OpenShut
import Derived.ShutString
import Derived.ChangeOld
import Derived.Below
import Derived.SizedLaws
import Derived.Lib.SmallJoins
import Derived.Deep.CondSized
import Derived.Deep.DeepHandedRow
import Derived.Deep.DeepWitnessRowRef
namespace Go.Proofs.YteiginpjahmppaaDoor.fnExactFieldsSeq
open Go.ChangeShapes Go.WideShapes Go.ChangeAt Go.RowKit Go.Joins
open Go.ChangeMaps (open_string shut_string)
set_option linter.unusedVariables false

theorem own : ownKnob Tryd.prog.godebug = none := by kernel_rfl
theorem laidOut : laidOutB Tryd.prog = true := by kernel_rfl
set_option maxHeartbeats 1000000 in
theorem walk (a0 : ByteArray) (w : World) (w0 : a0.size ≤ 140737488351232) (hT : Tabs w) (hS : Spaces w) :
    Calls Tryd.prog 6 #[.string a0] w fun e w' => e = .returned (.bool true) ∧ Below w.heap.size w w' := by
  have HT := Lib.hid hT; have HS := Lib.hid hS; clear hT hS
  by_cases h1 : a0.size ≤ 1048576
  · have hLn : (fieldsP Lib.isSpaceR a0).length ≤ 1048576 := Nat.le_trans (fieldsP_len _ a0) h1
    have CS := Lib.hid (fun (W : World) (hb : Below w.heap.size w W) => spec_FieldsSeq a0 W (by omega))
    have CI := Lib.hid (fun (W : World) (hb : Below w.heap.size w W) => impl_FieldsSeq a0 W (by omega) (HT.out.below hb) (HS.out.below hb))
    generalize fieldsP Lib.isSpaceR a0 = L at *
    go_enter Tryd.func6, Tryd.ntmps6
    go_wp2_with fail
    refine (CS.out w (Below.refl _ _)).mono ?_; rintro e w1 ⟨a1, c1, rfl, hl1, hb1⟩
    have B1 := Lib.hid hb1
    have L1 := Lib.hid hl1
    clear hb1 hl1
    go_wp2_with fail
    refine (CI.out _ B1.out).mono ?_; rintro e w2 ⟨g, c, rfl, ho2, hb2⟩
    have B2 := Lib.hid (B1.out.trans (hb2.mono B1.out.size))
    have O2 := Lib.hid ho2
    have K2 := Lib.hid (L1.out.below hb2)
    have E1 := Lib.hid (K2.out.up hb2.size)
    have E2 := Lib.hid (show Lies w2 w2.heap.size 1 (some ⟨g, 0, none⟩) L.length (strs L) from Lies.of_own ho2)
    have hs2 := hb2.size
    clear hb2 ho2
    go_wp2_with fail
    refine (laws_eqStringS _ _ _ _ L _ E2.out E1.out (by omega)).mono ?_; rintro e w3 ⟨rfl, hd3⟩
    have hb3 := hd3.below w2.heap.size
    have B3 := Lib.hid (B2.out.trans (hb3.mono B2.out.size))
    have O3 := Lib.hid (show OwnStrs w3 w1.heap.size g L.length c L from own_later O2.out hb3)
    have K3 := Lib.hid (K2.out.below (hb3.mono hs2))
    have hs3 := Nat.le_trans hs2 hb3.size
    clear hd3 hb3 E1 E2 K2 O2
    go_wp2_with fail
    refine (laws_markStringS w1.heap.size g L.length c L _ O3.out (by omega) hs3).mono ?_; rintro e w4 ⟨rfl, ho4, hb4⟩
    have B4 := Lib.hid (B3.out.trans (hb4.mono B1.out.size))
    have O4 := Lib.hid ho4
    have K4 := Lib.hid (K3.out.below hb4)
    have hs4 := Nat.le_trans hs3 hb4.size
    clear hb4 ho4 O3 K3
    go_wp2_with fail
    refine (laws_heldStringS w1.heap.size g L.length c _ O4.out (by omega)).mono ?_; rintro e w5 ⟨rfl, hb5⟩
    have B5 := Lib.hid (B4.out.trans (hb5.mono B4.out.size))
    have O5 := Lib.hid (show OwnStrs w5 w1.heap.size g L.length c (marks 1 L.length) from own_later O4.out hb5)
    have K5 := Lib.hid (K4.out.below (hb5.mono hs4))
    have hs5 := Nat.le_trans hs4 hb5.size
    clear hb5 O4 K4
    go_wp2_with fail
    refine (CI.out _ B5.out).mono ?_; rintro e w6 ⟨g6, c6, rfl, ho6, hb6⟩
    have B6 := Lib.hid (B5.out.trans (hb6.mono B5.out.size))
    have O6 := Lib.hid (show OwnStrs w6 w1.heap.size g L.length c (marks 1 L.length) from own_later O5.out hb6)
    have hs6 := Nat.le_trans hs5 hb6.size
    have E1 := Lib.hid ((K5.out.below (hb6.mono hs5)).up hs6)
    have E2 := Lib.hid (show Lies w6 w6.heap.size 1 (some ⟨g6, 0, none⟩) L.length (strs L) from Lies.of_own ho6)
    clear hb6 ho6 O5 K5
    go_wp2_with fail
    refine (laws_eqStringS _ _ _ _ L _ E2.out E1.out (by omega)).mono ?_; rintro e w7 ⟨rfl, hd7⟩
    have hb7 := hd7.below w6.heap.size
    have B7 := Lib.hid (B6.out.trans (hb7.mono B6.out.size))
    have O7 := Lib.hid (show OwnStrs w7 w1.heap.size g L.length c (marks 1 L.length) from own_later O6.out hb7)
    clear hd7 hb7 E1 E2 O6
    go_wp2_with fail
    refine (laws_heldStringS w1.heap.size g L.length c _ O7.out (by omega)).mono ?_; rintro e w8 ⟨rfl, hb8⟩
    have B8 := Lib.hid (B7.out.trans (hb8.mono B7.out.size))
    clear hb8 O7
    go_wp2_with fail
    go_ret
    exact ⟨rfl, B8.out⟩
  · go_enter Tryd.func6, Tryd.ntmps6
    go_wp2_with fail
    go_ret
    exact ⟨rfl, Below.refl _ _⟩

theorem contract (H : Type) (enc : TypeId × Value → H) (W : World) (base : Nat) (args : Array Value) (ds gs : List (DataW H)) (before : List MemPlace)
    (hval0 : ∀ (j : Nat) t v, Tryd.f6.params[j]? = some t → args[j]? = some v → Value.okWide Tryd.prog W .any base t v)
    (hW : DataW.Whole enc Tryd.prog Tryd.f6.params.toList Rows.fnExactFieldsSeqSpec.vars false W args.toList ds gs before)
    (hsz0 : (DataW.weightsEach Tryd.prog (Tryd.f6.params.toList ++ Rows.fnExactFieldsSeqSpec.plain.varTypes Tryd.prog) (ds ++ gs)).all (· ≤ reachBytes) = true) (hL : laidMetH Tryd.prog Rows.fnExactFieldsSeqRow.laid W) :
    Calls Tryd.prog 6 args W fun e W' => ∃ v, e = .returned v ∧ Rows.fnExactFieldsSeqSpec.post enc Tryd.prog Tryd.f6 false true false false W args v W' := by
  have hval := hval0
  have hsz := hsz0
  clear hval0 hsz0
  have hW' := hW
  obtain ⟨p, q, hA0, hV, rfl, hfz, hnd⟩ := hW
  have hA : DataW.TrodAll enc Tryd.prog W 0 (fun _ => true) true Tryd.f6.params.toList args.toList ds p := hA0
  rw [Tryd.params6] at hA hval hsz
  obtain ⟨v0, vs0, d0, ds0, p0, q0, hargs, rfl, rfl, h0, r0x⟩ := trodAll_cons hA
  obtain ⟨rfl, rfl, rfl⟩ := trodAll_nil r0x
  obtain rfl : args = #[v0] := by cases args; simp_all
  obtain ⟨rfl, rfl⟩ := trodVars_none hV
  obtain ⟨a0, rfl, rfl, rfl, x0⟩ := open_string Tryd.underlying9 (hval 0 9 v0 rfl rfl) h0
  clear hA0
  have w0 : a0.size ≤ 140737488351232 := by have := sized_string hsz (j := 0) (t := 9) rfl rfl; simpa [reachBytes] using this
  refine (walk a0 W w0 (tabs_of hL (by unfold Rows.fnExactFieldsSeqRow; simp) (by unfold Rows.fnExactFieldsSeqRow; simp)) (spaces_of hL (by unfold Rows.fnExactFieldsSeqRow; simp) (by unfold Rows.fnExactFieldsSeqRow; simp))).mono fun e W' ⟨he, bel⟩ => ?_
  subst he
  exact ⟨_, rfl, _, _, _, [], _, [], hW', trodAll_mk1 (shut_bool Tryd.underlying4 _), (trodAll_cons_mk (shut_string Tryd.underlying9 x0) trodAll_mk0), rfl, bel.frame _, fun h => by cases h⟩

theorem laid_met (os : Os) : laidMet Tryd.prog Rows.fnExactFieldsSeqRow.laid ((laidWorld os).forCall (fun _ _ => 0) ⟨#[], #[.string ByteArray.empty], []⟩).memory :=
  laidMet_of_run' 8 (by kernel_rfl) (by kernel_rfl)
theorem reads (os : Os) {H : Type} (enc : TypeId × Value → H) : ∃ places, DataW.whole enc Tryd.prog ((laidWorld os).forCall (fun _ _ => 0) ⟨#[], #[.string ByteArray.empty], []⟩).memory Tryd.f6.params.toList Rows.fnExactFieldsSeqSpec.vars false (#[.string ByteArray.empty] : Array Value).toList 8 = some ([.lit (.string [])], [], places) :=
  ⟨[], by kernel_rfl⟩
set_option maxRecDepth 100000 in
theorem lifted (os : Os) (started : os.Started) (H : Type) (enc : TypeId × Value → H) (F : Stop.Interp) :
    ReturnsInHanded {} Tryd.checked os 6 .any ((OpenSpec.ofChange Rows.fnExactFieldsSeqSpec).preRow enc Tryd.prog Tryd.f6 Rows.fnExactFieldsSeqRow.domain false Rows.fnExactFieldsSeqRow.laid) (((OpenSpec.ofChange Rows.fnExactFieldsSeqSpec).at F).post enc Tryd.prog Tryd.f6 false true false false) := by
  obtain ⟨places, hx⟩ := reads os enc
  refine returnsInHanded_of_row (C := Tryd.checked) (s := OpenSpec.ofChange Rows.fnExactFieldsSeqSpec) own started (by kernel_rfl) Tryd.func6
    (witness_row_atRef (enc := enc) (C := Tryd.checked) false (laidWorld os) #[.string ByteArray.empty] rfl (by kernel_rfl) (by kernel_rfl) (by kernel_rfl)
      (OpenSpec.preRow_of_cond 8 hx (by kernel_rfl) (fun k hk => by cases hk) (by kernel_rfl) (laid_met os))) ?_
  intro W base args ds gs before hval0 hW _ hcond hsz0 hL _ _
  exact contract H enc W base args ds gs before hval0 hW hsz0 hL

theorem said : Rows.FnExactFieldsSeqSaid :=
  OpenClaim.holds_of_cond 6 Tryd.f6 rfl rfl rfl rfl rfl rfl rfl ⟨rfl, rfl, rfl, rfl, rfl⟩ rfl rfl rfl rfl rfl (by kernel_rfl) Tryd.func6 (by kernel_rfl)
    (of_decide_eq_true (by kernel_rfl)) (by unfold Func.isWrapper; first | (rw [if_pos (by decide +kernel)]; kernel_rfl) | (rw [if_neg (by decide +kernel)]; exact ⟨rfl, rfl⟩))
    (fun os started H enc _ F => by rw [OpenClaim.pre_eq_preRow]; exact lifted os started H enc F)

theorem plain (f : FuncId) (fn : Func) (hf : Tryd.pinned.checked.prog.funcNamed Rows.fnExactFieldsSeqRow.func = some f) (hfn : Tryd.pinned.checked.prog.funcs[f]? = some fn) :
    false = Tryd.pinned.checked.prog.looks [] ∧ ∀ (j : Nat) t, fn.params[j]? = some t → Tryd.pinned.checked.prog.wantsStandIn t = false := by
  obtain rfl : f = 6 := Option.some.inj ((show Tryd.prog.funcNamed Rows.fnExactFieldsSeqRow.func = some 6 by kernel_rfl).symm.trans hf) |>.symm
  obtain rfl : fn = Tryd.f6 := (Option.some.inj (Tryd.func6.symm.trans hfn)).symm
  refine ⟨by kernel_rfl, fun j t ht => ?_⟩
  rw [Tryd.params6] at ht
  have hm := Array.mem_of_getElem? ht
  simp only [List.mem_toArray, List.mem_cons, List.mem_nil_iff, or_false] at hm
  subst hm
  exact (show Tryd.prog.wantsStandIn 9 = false by kernel_rfl)

theorem proved : Rows.FnExactFieldsSeqCardSaid :=
  Claim7.holds_tied_plain_at .later [] _ _ _ _ said (fun _ h => by cases h) (by kernel_rfl) (fun _ h => by cases h) fnExactFieldsSeq_row_tie rfl ⟨rfl, rfl⟩ (by kernel_rfl) rfl plain (by kernel_rfl)
#print axioms proved
end Go.Proofs.YteiginpjahmppaaDoor.fnExactFieldsSeq
