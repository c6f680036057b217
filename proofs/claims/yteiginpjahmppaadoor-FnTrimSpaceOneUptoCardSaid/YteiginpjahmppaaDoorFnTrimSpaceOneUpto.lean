/-
  For every text the law FnTrimSpaceOne returns true and changes nothing. Condition: what comes in is of bulk at most 1048576 (the second form).
-/
import Derived.Test.YteiginpjahmppaaDoorCards
import Derived.Test.YteiginpjahmppaaDoorTie
import Derived.Test.YteiginpjahmppaaDoorTabs
import Derived.Test.YteiginpjahmppaaDoorSpaceF
import Derived.Test.YteiginpjahmppaaDoorWords
import Derived.Test.YteiginpjahmppaaDoorSame
import Derived.Test.YteiginpjahmppaaDoorImplHP
import Derived.WalkKit
import Derived.ProofKit
import Derived.OpenShut
import Derived.ShutString
import Derived.ChangeOld
import Derived.Below
import Derived.SizedLaws
import Derived.Lib.SmallJoins
import Derived.Deep.CondSized
import Derived.Deep.DeepHandedRow
import Derived.Deep.DeepWitnessRowRef
namespace Go.Proofs.YteiginpjahmppaaDoor.fnTrimSpaceOneUpto
open Go.ChangeShapes Go.WideShapes Go.ChangeAt Go.RowKit Go.Joins
open Go.ChangeMaps (open_string shut_string)
set_option linter.unusedVariables false

theorem own : ownKnob Tryd.prog.godebug = none := by kernel_rfl
theorem laidOut : laidOutB Tryd.prog = true := by kernel_rfl
set_option maxHeartbeats 1000000 in
theorem walk (a0 : ByteArray) (w : World) (w0 : a0.size ≤ 1048576) (hT : Tabs w) (hS : Spaces w) :
    Calls Tryd.prog 10 #[.string a0] w fun e w' => e = .returned (.bool true) ∧ Below w.heap.size w w' := by
  have HT := Lib.hid hT; have HS := Lib.hid hS; clear hT hS
  have hF := field_facts Lib.isSpaceR a0
  have hE := Lib.hid (field_ends Lib.isSpaceR a0)
  have htl := trim_le Lib.isSpaceR a0
  have hLn := fieldsP_len Lib.isSpaceR a0
  have CF := Lib.hid (fun (W : World) (hb : Below w.heap.size w W) => impl_Fields a0 W (by omega) (HS.out.below hb))
  have CF2 := Lib.hid (fun (W : World) (hb : Below w.heap.size w W) => impl_Fields (trimR Lib.isSpaceR (trimL Lib.isSpaceR a0)) W (by omega) (HS.out.below hb))
  rw [hF.same] at CF2
  have CT := Lib.hid (fun (W : World) (hb : Below w.heap.size w W) => impl_TrimSpace a0 W (by omega) (HT.out.below hb) (HS.out.below hb))
  have CS := Lib.hid (fun (W : World) => spec_TrimSpace a0 W (by omega))
  clear hF
  generalize fieldsP Lib.isSpaceR a0 = L at *
  generalize trimR Lib.isSpaceR (trimL Lib.isSpaceR a0) = t at *
  go_enter Tryd.func10, Tryd.ntmps10
  go_wp2_with fail
  refine (CF.out _ (Below.refl _ _)).mono ?_; rintro e w1 ⟨g, c, rfl, ho1, hb1⟩
  have B1 := Lib.hid hb1; have L1 := Lib.hid (show Lies w1 w1.heap.size 1 (some ⟨g, 0, none⟩) L.length (strs L) from Lies.of_own ho1)
  have O1 := Lib.hid ho1
  clear hb1 ho1
  go_wp2_with fail
  refine (CT.out _ B1.out).mono ?_; rintro e w2 ⟨rfl, hb2⟩
  have B2 := Lib.hid (B1.out.trans (hb2.mono B1.out.size)); have L2 := Lib.hid (L1.out.later hb2)
  have O2 := Lib.hid (own_later O1.out hb2)
  clear hb2 L1 O1
  by_cases h0 : L.length = 0
  · have he := empty_yes (hE.out.none.1 h0)
    have hl0 : ((L.length : Int) == 0) = true := by simp [h0]
    have hl0' : (L.length == 0) = true := by simp [h0]
    obtain rfl : L = [] := List.length_eq_zero_iff.1 h0
    clear h0
    go_wp2_with fail
    refine (CS.out _).mono ?_; rintro e w3 ⟨rfl, hb3⟩
    have B3 := Lib.hid (B2.out.trans (hb3.mono B2.out.size)); clear hb3
    go_wp2_with fail
    go_ret
    exact ⟨rfl, B3.out⟩
  · obtain ⟨m, hm⟩ : ∃ m, L.length = m + 1 := ⟨L.length - 1, by omega⟩
    have HPf := Lib.hid (hE.out.first (by omega)); have HSf := Lib.hid (hE.out.last m hm)
    have c0 : w2.cell? ⟨g, 0, none⟩ = some (.string (L[0]'(by omega))) := by
      have := O2.out.cellAt 0 (by omega); rw [this]; simp [strs]
    have cm : w2.cell? ⟨g, m, none⟩ = some (.string (L[m]'(by omega))) := by
      have := O2.out.cellAt m (by omega); rw [this]; simp [strs, hm]
    have hL0 : ((L.length : Int) == 0) = false := beq_eq_false_iff_ne.2 (by omega)
    have hL0' : (L.length == 0) = false := beq_eq_false_iff_ne.2 (by omega)
    have hA : (L.length : Int) - 1 = (m : Int) := by omega
    have hml : m < L.length := by omega
    have hone : L.length = 1 → t = L[0]'(by omega) := fun h => hE.out.one h
    generalize hY0 : L[0]'(by omega) = Y at *
    generalize hXm : L[m]'(by omega) = X at *
    by_cases h1 : L.length = 1
    · have hty := hone h1
      subst hty
      have hg1 : decide (1 < (L.length : Int)) = false := by simp; omega
      have hg1' : decide (1 < L.length) = false := by simp; omega
      have HM := Lib.hid hm; have H1 := Lib.hid h1
      clear hm h0 hone h1 hY0 hXm
      go_wp2_with fail
      refine (impl_HasPrefix _ _ _).mono ?_; rintro e w3 ⟨rfl, rfl⟩; rw [HPf.out]
      go_wp2_with fail
      refine (impl_HasSuffix _ _ (by omega) _).mono ?_; rintro e w3 ⟨rfl, rfl⟩; rw [HSf.out]
      go_wp2_with fail
      refine (CF2.out _ B2.out).mono ?_; rintro e w4 ⟨g4, c4, rfl, ho4, hb4⟩
      have B4 := Lib.hid (B2.out.trans (hb4.mono B2.out.size)); have E1 := Lib.hid (L2.out.later hb4); have E2 := Lib.hid (show Lies w4 w4.heap.size 1 (some ⟨g4, 0, none⟩) L.length (strs L) from Lies.of_own ho4)
      clear hb4 ho4 c0 cm
      go_wp2_with fail
      refine (laws_same _ _ _ _ L _ E2.out E1.out (by omega)).mono ?_; rintro e w5 ⟨rfl, hd5⟩
      have B5 := Lib.hid (B4.out.trans ((hd5.below w4.heap.size).mono B4.out.size)); clear hd5
      go_wp2_with fail
      go_ret
      exact ⟨rfl, B5.out⟩
    · have hg1 : decide (1 < (L.length : Int)) = true := by simp; omega
      have hg1' : decide (1 < L.length) = true := by simp; omega
      have HM := Lib.hid hm; have H1 := Lib.hid h1
      clear hm h0 hone h1 hY0 hXm
      go_wp2_with fail
      refine (impl_HasPrefix _ _ _).mono ?_; rintro e w3 ⟨rfl, rfl⟩; rw [HPf.out]
      go_wp2_with fail
      refine (impl_HasSuffix _ _ (by omega) _).mono ?_; rintro e w3 ⟨rfl, rfl⟩; rw [HSf.out]
      go_wp2_with fail
      refine (CF2.out _ B2.out).mono ?_; rintro e w4 ⟨g4, c4, rfl, ho4, hb4⟩
      have B4 := Lib.hid (B2.out.trans (hb4.mono B2.out.size)); have E1 := Lib.hid (L2.out.later hb4); have E2 := Lib.hid (show Lies w4 w4.heap.size 1 (some ⟨g4, 0, none⟩) L.length (strs L) from Lies.of_own ho4)
      clear hb4 ho4 c0 cm
      go_wp2_with fail
      refine (laws_same _ _ _ _ L _ E2.out E1.out (by omega)).mono ?_; rintro e w5 ⟨rfl, hd5⟩
      have B5 := Lib.hid (B4.out.trans ((hd5.below w4.heap.size).mono B4.out.size)); clear hd5
      go_wp2_with fail
      go_ret
      exact ⟨rfl, B5.out⟩

theorem contract (H : Type) (enc : TypeId × Value → H) (W : World) (base : Nat) (args : Array Value) (ds gs : List (DataW H)) (before : List MemPlace)
    (hval0 : ∀ (j : Nat) t v, Tryd.f10.params[j]? = some t → args[j]? = some v → Value.okWide Tryd.prog W .any base t v)
    (hW : DataW.Whole enc Tryd.prog Tryd.f10.params.toList Rows.fnTrimSpaceOneSpec.vars false W args.toList ds gs before)
    (hsz0 : (DataW.weightsEach Tryd.prog (Tryd.f10.params.toList ++ Rows.fnTrimSpaceOneSpec.plain.varTypes Tryd.prog) (ds ++ gs)).all (· ≤ reachBytes) = true) (hk : Rows.uptoSmall H (ds ++ gs) = true) (hL : laidMetH Tryd.prog Rows.fnTrimSpaceOneUptoRow.laid W) :
    Calls Tryd.prog 10 args W fun e W' => ∃ v, e = .returned v ∧ Rows.fnTrimSpaceOneSpec.post enc Tryd.prog Tryd.f10 false true false false W args v W' := by
  have hval := hval0
  have hsz := hsz0
  clear hval0 hsz0
  have hW' := hW
  obtain ⟨p, q, hA0, hV, rfl, hfz, hnd⟩ := hW
  have hA : DataW.TrodAll enc Tryd.prog W 0 (fun _ => true) true Tryd.f10.params.toList args.toList ds p := hA0
  rw [Tryd.params10] at hA hval hsz
  obtain ⟨v0, vs0, d0, ds0, p0, q0, hargs, rfl, rfl, h0, r0x⟩ := trodAll_cons hA
  obtain ⟨rfl, rfl, rfl⟩ := trodAll_nil r0x
  obtain rfl : args = #[v0] := by cases args; simp_all
  obtain ⟨rfl, rfl⟩ := trodVars_none hV
  have hbulk := of_decide_eq_true hk
  obtain ⟨a0, rfl, rfl, rfl, x0⟩ := open_string Tryd.underlying9 (hval 0 9 v0 rfl rfl) h0
  clear hA0
  have w0 : a0.size ≤ 1048576 := by
    simp only [Rows.uptoBulkAll, Rows.uptoBulk, List.append_nil] at hbulk
    have e : a0.data.toList.length = a0.size := by rw [Array.length_toList]; rfl
    omega
  refine (walk a0 W w0 (tabs_of hL (by unfold Rows.fnTrimSpaceOneUptoRow; simp) (by unfold Rows.fnTrimSpaceOneUptoRow; simp)) (spaces_of hL (by unfold Rows.fnTrimSpaceOneUptoRow; simp) (by unfold Rows.fnTrimSpaceOneUptoRow; simp))).mono fun e W' ⟨he, bel⟩ => ?_
  subst he
  exact ⟨_, rfl, _, _, _, [], _, [], hW', trodAll_mk1 (shut_bool Tryd.underlying4 _), (trodAll_cons_mk (shut_string Tryd.underlying9 x0) trodAll_mk0), rfl, bel.frame _, fun h => by cases h⟩

theorem laid_met (os : Os) : laidMet Tryd.prog Rows.fnTrimSpaceOneUptoRow.laid ((laidWorld os).forCall (fun _ _ => 0) ⟨#[], #[.string ByteArray.empty], []⟩).memory :=
  laidMet_of_run' 8 (by kernel_rfl) (by kernel_rfl)
theorem reads (os : Os) {H : Type} (enc : TypeId × Value → H) : ∃ places, DataW.whole enc Tryd.prog ((laidWorld os).forCall (fun _ _ => 0) ⟨#[], #[.string ByteArray.empty], []⟩).memory Tryd.f10.params.toList Rows.fnTrimSpaceOneSpec.vars false (#[.string ByteArray.empty] : Array Value).toList 8 = some ([.lit (.string [])], [], places) :=
  ⟨[], by kernel_rfl⟩
set_option maxRecDepth 100000 in
theorem lifted (os : Os) (started : os.Started) (H : Type) (enc : TypeId × Value → H) (F : Stop.Interp) :
    ReturnsInHanded {} Tryd.checked os 10 .any ((Rows.OpenSpec.upto Rows.fnTrimSpaceOneSpec).preRow enc Tryd.prog Tryd.f10 Rows.fnTrimSpaceOneUptoRow.domain false Rows.fnTrimSpaceOneUptoRow.laid) (((Rows.OpenSpec.upto Rows.fnTrimSpaceOneSpec).at F).post enc Tryd.prog Tryd.f10 false true false false) := by
  obtain ⟨places, hx⟩ := reads os enc
  refine returnsInHanded_of_row (C := Tryd.checked) (s := Rows.OpenSpec.upto Rows.fnTrimSpaceOneSpec) own started (by kernel_rfl) Tryd.func10
    (witness_row_atRef (enc := enc) (C := Tryd.checked) false (laidWorld os) #[.string ByteArray.empty] rfl (by kernel_rfl) (by kernel_rfl) (by kernel_rfl)
      (OpenSpec.preRow_of_cond 8 hx (by kernel_rfl) (fun k hk => by cases hk; kernel_rfl) (by kernel_rfl) (laid_met os))) ?_
  intro W base args ds gs before hval0 hW _ hcond hsz0 hL _ _
  exact contract H enc W base args ds gs before hval0 hW hsz0 (hcond _ rfl) hL

theorem said : Rows.FnTrimSpaceOneUptoSaid :=
  OpenClaim.holds_of_cond 10 Tryd.f10 rfl rfl rfl rfl rfl rfl rfl ⟨rfl, rfl, rfl, rfl, rfl⟩ rfl rfl rfl rfl rfl (by kernel_rfl) Tryd.func10 (by kernel_rfl)
    (of_decide_eq_true (by kernel_rfl)) (by unfold Func.isWrapper; first | (rw [if_pos (by decide +kernel)]; kernel_rfl) | (rw [if_neg (by decide +kernel)]; exact ⟨rfl, rfl⟩))
    (fun os started H enc _ F => by rw [OpenClaim.pre_eq_preRow]; exact lifted os started H enc F)

theorem plain (f : FuncId) (fn : Func) (hf : Tryd.pinned.checked.prog.funcNamed Rows.fnTrimSpaceOneUptoRow.func = some f) (hfn : Tryd.pinned.checked.prog.funcs[f]? = some fn) :
    false = Tryd.pinned.checked.prog.looks [] ∧ ∀ (j : Nat) t, fn.params[j]? = some t → Tryd.pinned.checked.prog.wantsStandIn t = false := by
  obtain rfl : f = 10 := Option.some.inj ((show Tryd.prog.funcNamed Rows.fnTrimSpaceOneUptoRow.func = some 10 by kernel_rfl).symm.trans hf) |>.symm
  obtain rfl : fn = Tryd.f10 := (Option.some.inj (Tryd.func10.symm.trans hfn)).symm
  refine ⟨by kernel_rfl, fun j t ht => ?_⟩
  rw [Tryd.params10] at ht
  have hm := Array.mem_of_getElem? ht
  simp only [List.mem_toArray, List.mem_cons, List.mem_nil_iff, or_false] at hm
  subst hm
  exact (show Tryd.prog.wantsStandIn 9 = false by kernel_rfl)

theorem proved : Rows.FnTrimSpaceOneUptoCardSaid :=
  Claim7.holds_tied_plain_at .later [] _ _ _ _ said (fun _ h => by cases h) (by kernel_rfl) (fun _ h => by cases h) fnTrimSpaceOneUpto_row_tie rfl ⟨rfl, rfl⟩ (by kernel_rfl) rfl plain (by kernel_rfl)
#print axioms proved
end Go.Proofs.YteiginpjahmppaaDoor.fnTrimSpaceOneUpto
