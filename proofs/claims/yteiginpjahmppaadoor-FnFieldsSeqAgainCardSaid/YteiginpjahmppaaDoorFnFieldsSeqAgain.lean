/-
  For every text the law FnFieldsSeqAgain returns true and changes nothing: fields told one by one are those of the test of white space, and the same again between blanks, or the bound is passed. No condition.
-/
import Derived.Test.YteiginpjahmppaaDoorCards
import Derived.Test.YteiginpjahmppaaDoorTie
import Derived.Test.YteiginpjahmppaaDoorTabs
import Derived.Test.YteiginpjahmppaaDoorSpaceF
import Derived.Test.YteiginpjahmppaaDoorSpaceIt
import Derived.Test.YteiginpjahmppaaDoorSeqIt
import Derived.Test.YteiginpjahmppaaDoorFieldsI
import Derived.Test.YteiginpjahmppaaDoorWords
import Derived.Test.YteiginpjahmppaaDoorWordJ
import Derived.Test.YteiginpjahmppaaDoorSame
import Derived.Test.YteiginpjahmppaaDoorBlank
import Derived.WalkKit
import Derived.ProofKit
import Derived.OpenShut
import Derived.ShutString
import Derived.ChangeOld
import Derived.Below
import Derived.SizedLaws
import Derived.Lib.SmallJoins
import Derived.Deep.CondSized
import Derived.Deep.DeepHandedRow
import Derived.Deep.DeepWitnessRowRef
namespace Go.Proofs.YteiginpjahmppaaDoor.fnFieldsSeqAgain
open Go.ChangeShapes Go.WideShapes Go.ChangeAt Go.RowKit Go.Joins
open Go.ChangeMaps (open_string shut_string)
set_option linter.unusedVariables false

theorem own : ownKnob Tryd.prog.godebug = none := by kernel_rfl
theorem laidOut : laidOutB Tryd.prog = true := by kernel_rfl
set_option maxHeartbeats 1000000 in
theorem walk (a0 : ByteArray) (w : World) (w0 : a0.size ≤ 140737488351232) (hT : Tabs w) (hS : Spaces w) :
    Calls Tryd.prog 8 #[.string a0] w fun e w' => e = .returned (.bool true) ∧ Below w.heap.size w w' := by
  have HT := Lib.hid hT; have HS := Lib.hid hS; clear hT hS
  by_cases h16 : (a0.size : Int) ≤ 16777216
  · have hbl := blank_len
    have hbl2 : (blankK 12289).length ≤ 35184372088832 := Nat.le_trans (blankK_len _) (by decide)
    have hE := (field_ends Lib.isSpaceR a0).none
    have hLn := fieldsP_len Lib.isSpaceR a0
    have hJs : (joinB (fieldsP Lib.isSpaceR a0) ⟨#[32, 9]⟩).size ≤ 1099511627776 := by
      have h1 := join_size (fieldsP Lib.isSpaceR a0) ⟨#[32, 9]⟩
      have h2 := fields_sum Lib.isSpaceR a0
      have h3 : (⟨#[32, 9]⟩ : ByteArray).size = 2 := rfl
      rw [h3] at h1
      omega
    have hJf := blank_join2 a0
    have CB := Lib.hid (fun (W : World) => laws_blanks W)
    have CQ := Lib.hid (fun (s : ByteArray) (hs : s.size ≤ 1099511627776) (W : World) (hb : Below w.heap.size w W) => impl_FieldsSeq s W (by omega) (HT.out.below hb) (HS.out.below hb))
    have CFQ := Lib.hid (fun (a : Option Addr) (c : Nat) (W : World) (hb : Below w.heap.size w W) (h : Lies W W.heap.size 1 a (blankK 12289).length (ints (blankK 12289))) => (impl_FieldsFuncSeq a _ c (blankK 12289) false a0 W (by omega) (HT.out.below hb) h hbl).mono (R' := NewStrs (fieldsP Lib.isSpaceR a0) W) (fun e w' h => by rw [blank_fun] at h; exact h))
    have CJ := Lib.hid (fun (a : Option Addr) (c : Nat) (W : World) (h : Lies W W.heap.size 1 a (fieldsP Lib.isSpaceR a0).length (strs (fieldsP Lib.isSpaceR a0))) (hc : (fieldsP Lib.isSpaceR a0).length ≤ c) => impl_Join a c (fieldsP Lib.isSpaceR a0) ⟨#[32, 9]⟩ W h hc (by omega) hJs)
    have CS := Lib.hid (fun (W : World) => spec_TrimSpace a0 W (by omega))
    have CTe := Lib.hid (fun (a : Option Addr) (c : Nat) (W : World) (ha : a = none → (blankK 12289).length = 0) (h : Lies W W.heap.size 1 a (blankK 12289).length (ints (blankK 12289))) => laws_test a _ c (blankK 12289) false W ha h hbl2)
    unfold BlanksOf at CB
    have hs0 : a0.size ≤ 1099511627776 := by omega
    have CQ0 := Lib.hid (CQ.out a0 hs0)
    have CQJ := Lib.hid (CQ.out _ hJs)
    rw [hJf] at CQJ
    generalize blankK 12289 = Z at *
    generalize joinB (fieldsP Lib.isSpaceR a0) ⟨#[32, 9]⟩ = J at *
    generalize fieldsP Lib.isSpaceR a0 = L at *
    generalize trimR Lib.isSpaceR (trimL Lib.isSpaceR a0) = t at *
    have HE := Lib.hid hE; clear hE hJf CQ
    go_enter Tryd.func8, Tryd.ntmps8
    go_wp2_with fail
    refine (CQ0.out _ (Below.refl _ _)).mono ?_; rintro e w1' ⟨g, c, rfl, ho1, hb1⟩
    have B1 := Lib.hid hb1; have L1 := Lib.hid (show Lies w1' w1'.heap.size 1 (some ⟨g, 0, none⟩) L.length (strs L) from Lies.of_own ho1); have hcap := own_cap ho1
    clear hb1 ho1
    go_wp2_with fail
    refine (CB.out _).mono ?_; rintro e w2 ⟨ab, cb, rfl, hlb, hnb, hb2⟩
    have B2 := Lib.hid (B1.out.trans (hb2.mono B1.out.size)); have HLb := Lib.hid hlb; have HNb := Lib.hid hnb; have L2 := Lib.hid (L1.out.later hb2)
    clear hb2 hlb hnb L1
    go_wp2_with fail
    refine (CTe.out ab cb _ HNb.out HLb.out).mono ?_; rintro e w3 ⟨a', c', rfl, hl3, hb3⟩
    have B3 := Lib.hid (B2.out.trans (hb3.mono B2.out.size)); have T3 := Lib.hid hl3; have L3 := Lib.hid (L2.out.later hb3)
    clear hb3 hl3 L2
    go_wp2_with fail
    refine (CFQ.out a' c' _ B3.out T3.out).mono ?_; rintro e w4 ⟨g4, c4, rfl, ho4, hb4⟩
    have B4 := Lib.hid (B3.out.trans (hb4.mono B3.out.size)); have L4 := Lib.hid (L3.out.later hb4); have M4 := Lib.hid (show Lies w4 w4.heap.size 1 (some ⟨g4, 0, none⟩) L.length (strs L) from Lies.of_own ho4)
    clear hb4 ho4 L3 T3
    go_wp2_with fail
    refine (laws_same _ _ _ _ L _ L4.out M4.out (by omega)).mono ?_; rintro e w5 ⟨rfl, hd5⟩
    have hb5 := hd5.below w4.heap.size
    have B5 := Lib.hid (B4.out.trans (hb5.mono B4.out.size)); have L5 := Lib.hid (L4.out.later hb5)
    clear hd5 hb5 L4 M4
    go_wp2_with fail
    refine (CJ.out _ _ _ L5.out hcap).mono ?_; rintro e w6 ⟨rfl, hb6⟩
    have B6 := Lib.hid (B5.out.trans (hb6.mono B5.out.size)); have L6 := Lib.hid (L5.out.later hb6)
    clear hb6 L5
    go_wp2_with fail
    refine (CQJ.out _ B6.out).mono ?_; rintro e w7 ⟨g7, c7, rfl, ho7, hb7⟩
    have B7 := Lib.hid (B6.out.trans (hb7.mono B6.out.size)); have L7 := Lib.hid (L6.out.later hb7); have N7 := Lib.hid (show Lies w7 w7.heap.size 1 (some ⟨g7, 0, none⟩) L.length (strs L) from Lies.of_own ho7)
    clear hb7 ho7 L6
    go_wp2_with fail
    refine (laws_same _ _ _ _ L _ N7.out L7.out (by omega)).mono ?_; rintro e w8 ⟨rfl, hd8⟩
    have B8 := Lib.hid (B7.out.trans ((hd8.below w7.heap.size).mono B7.out.size))
    clear hd8
    by_cases h0 : L.length = 0
    · have he := empty_yes (HE.out.1 h0)
      have hl0 : ((L.length : Int) == 0) = true := by simp [h0]
      clear h0
      go_wp2_with fail
      refine (CS.out _).mono ?_; rintro e w9 ⟨rfl, hb9⟩
      have B9 := Lib.hid (B8.out.trans (hb9.mono B8.out.size)); clear hb9
      go_wp2_with fail
      go_ret
      exact ⟨rfl, B9.out⟩
    · have he := empty_no (fun h => h0 (HE.out.2 h))
      have hl0 : ((L.length : Int) == 0) = false := beq_eq_false_iff_ne.2 (by omega)
      clear h0
      go_wp2_with fail
      refine (CS.out _).mono ?_; rintro e w9 ⟨rfl, hb9⟩
      have B9 := Lib.hid (B8.out.trans (hb9.mono B8.out.size)); clear hb9
      go_wp2_with fail
      go_ret
      exact ⟨rfl, B9.out⟩
  · go_enter Tryd.func8, Tryd.ntmps8
    go_wp2_with fail
    go_ret
    exact ⟨rfl, Below.refl _ _⟩

theorem contract (H : Type) (enc : TypeId × Value → H) (W : World) (base : Nat) (args : Array Value) (ds gs : List (DataW H)) (before : List MemPlace)
    (hval0 : ∀ (j : Nat) t v, Tryd.f8.params[j]? = some t → args[j]? = some v → Value.okWide Tryd.prog W .any base t v)
    (hW : DataW.Whole enc Tryd.prog Tryd.f8.params.toList Rows.fnFieldsSeqAgainSpec.vars false W args.toList ds gs before)
    (hsz0 : (DataW.weightsEach Tryd.prog (Tryd.f8.params.toList ++ Rows.fnFieldsSeqAgainSpec.plain.varTypes Tryd.prog) (ds ++ gs)).all (· ≤ reachBytes) = true) (hL : laidMetH Tryd.prog Rows.fnFieldsSeqAgainRow.laid W) :
    Calls Tryd.prog 8 args W fun e W' => ∃ v, e = .returned v ∧ Rows.fnFieldsSeqAgainSpec.post enc Tryd.prog Tryd.f8 false true false false W args v W' := by
  have hval := hval0
  have hsz := hsz0
  clear hval0 hsz0
  have hW' := hW
  obtain ⟨p, q, hA0, hV, rfl, hfz, hnd⟩ := hW
  have hA : DataW.TrodAll enc Tryd.prog W 0 (fun _ => true) true Tryd.f8.params.toList args.toList ds p := hA0
  rw [Tryd.params8] at hA hval hsz
  obtain ⟨v0, vs0, d0, ds0, p0, q0, hargs, rfl, rfl, h0, r0x⟩ := trodAll_cons hA
  obtain ⟨rfl, rfl, rfl⟩ := trodAll_nil r0x
  obtain rfl : args = #[v0] := by cases args; simp_all
  obtain ⟨rfl, rfl⟩ := trodVars_none hV
  obtain ⟨a0, rfl, rfl, rfl, x0⟩ := open_string Tryd.underlying9 (hval 0 9 v0 rfl rfl) h0
  clear hA0
  have w0 : a0.size ≤ 140737488351232 := by have := sized_string hsz (j := 0) (t := 9) rfl rfl; simpa [reachBytes] using this
  refine (walk a0 W w0 (tabs_of hL (by unfold Rows.fnFieldsSeqAgainRow; simp) (by unfold Rows.fnFieldsSeqAgainRow; simp)) (spaces_of hL (by unfold Rows.fnFieldsSeqAgainRow; simp) (by unfold Rows.fnFieldsSeqAgainRow; simp))).mono fun e W' ⟨he, bel⟩ => ?_
  subst he
  exact ⟨_, rfl, _, _, _, [], _, [], hW', trodAll_mk1 (shut_bool Tryd.underlying4 _), (trodAll_cons_mk (shut_string Tryd.underlying9 x0) trodAll_mk0), rfl, bel.frame _, fun h => by cases h⟩

theorem laid_met (os : Os) : laidMet Tryd.prog Rows.fnFieldsSeqAgainRow.laid ((laidWorld os).forCall (fun _ _ => 0) ⟨#[], #[.string ByteArray.empty], []⟩).memory :=
  laidMet_of_run' 8 (by kernel_rfl) (by kernel_rfl)
theorem reads (os : Os) {H : Type} (enc : TypeId × Value → H) : ∃ places, DataW.whole enc Tryd.prog ((laidWorld os).forCall (fun _ _ => 0) ⟨#[], #[.string ByteArray.empty], []⟩).memory Tryd.f8.params.toList Rows.fnFieldsSeqAgainSpec.vars false (#[.string ByteArray.empty] : Array Value).toList 8 = some ([.lit (.string [])], [], places) :=
  ⟨[], by kernel_rfl⟩
set_option maxRecDepth 100000 in
theorem lifted (os : Os) (started : os.Started) (H : Type) (enc : TypeId × Value → H) (F : Stop.Interp) :
    ReturnsInHanded {} Tryd.checked os 8 .any ((OpenSpec.ofChange Rows.fnFieldsSeqAgainSpec).preRow enc Tryd.prog Tryd.f8 Rows.fnFieldsSeqAgainRow.domain false Rows.fnFieldsSeqAgainRow.laid) (((OpenSpec.ofChange Rows.fnFieldsSeqAgainSpec).at F).post enc Tryd.prog Tryd.f8 false true false false) := by
  obtain ⟨places, hx⟩ := reads os enc
  refine returnsInHanded_of_row (C := Tryd.checked) (s := OpenSpec.ofChange Rows.fnFieldsSeqAgainSpec) own started (by kernel_rfl) Tryd.func8
    (witness_row_atRef (enc := enc) (C := Tryd.checked) false (laidWorld os) #[.string ByteArray.empty] rfl (by kernel_rfl) (by kernel_rfl) (by kernel_rfl)
      (OpenSpec.preRow_of_cond 8 hx (by kernel_rfl) (fun k hk => by cases hk) (by kernel_rfl) (laid_met os))) ?_
  intro W base args ds gs before hval0 hW _ hcond hsz0 hL _ _
  exact contract H enc W base args ds gs before hval0 hW hsz0 hL

theorem said : Rows.FnFieldsSeqAgainSaid :=
  OpenClaim.holds_of_cond 8 Tryd.f8 rfl rfl rfl rfl rfl rfl rfl ⟨rfl, rfl, rfl, rfl, rfl⟩ rfl rfl rfl rfl rfl (by kernel_rfl) Tryd.func8 (by kernel_rfl)
    (of_decide_eq_true (by kernel_rfl)) (by unfold Func.isWrapper; first | (rw [if_pos (by decide +kernel)]; kernel_rfl) | (rw [if_neg (by decide +kernel)]; exact ⟨rfl, rfl⟩))
    (fun os started H enc _ F => by rw [OpenClaim.pre_eq_preRow]; exact lifted os started H enc F)

theorem plain (f : FuncId) (fn : Func) (hf : Tryd.pinned.checked.prog.funcNamed Rows.fnFieldsSeqAgainRow.func = some f) (hfn : Tryd.pinned.checked.prog.funcs[f]? = some fn) :
    false = Tryd.pinned.checked.prog.looks [] ∧ ∀ (j : Nat) t, fn.params[j]? = some t → Tryd.pinned.checked.prog.wantsStandIn t = false := by
  obtain rfl : f = 8 := Option.some.inj ((show Tryd.prog.funcNamed Rows.fnFieldsSeqAgainRow.func = some 8 by kernel_rfl).symm.trans hf) |>.symm
  obtain rfl : fn = Tryd.f8 := (Option.some.inj (Tryd.func8.symm.trans hfn)).symm
  refine ⟨by kernel_rfl, fun j t ht => ?_⟩
  rw [Tryd.params8] at ht
  have hm := Array.mem_of_getElem? ht
  simp only [List.mem_toArray, List.mem_cons, List.mem_nil_iff, or_false] at hm
  subst hm
  exact (show Tryd.prog.wantsStandIn 9 = false by kernel_rfl)

theorem proved : Rows.FnFieldsSeqAgainCardSaid :=
  Claim7.holds_tied_plain_at .later [] _ _ _ _ said (fun _ h => by cases h) (by kernel_rfl) (fun _ h => by cases h) fnFieldsSeqAgain_row_tie rfl ⟨rfl, rfl⟩ (by kernel_rfl) rfl plain (by kernel_rfl)
#print axioms proved
end Go.Proofs.YteiginpjahmppaaDoor.fnFieldsSeqAgain
