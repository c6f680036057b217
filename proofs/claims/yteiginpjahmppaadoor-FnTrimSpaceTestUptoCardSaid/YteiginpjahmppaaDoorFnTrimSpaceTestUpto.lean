/-
  For every text the law FnTrimSpaceTest returns true and changes nothing: white space is trimmed, and split around, as by the test of the code points that are white space. Condition: what comes in is of bulk at most 1048576 (the second form).
-/
import Derived.Test.YteiginpjahmppaaDoorCards
import Derived.Test.YteiginpjahmppaaDoorTie
import Derived.Test.YteiginpjahmppaaDoorTabs
import Derived.Test.YteiginpjahmppaaDoorSpaceF
import Derived.Test.YteiginpjahmppaaDoorFieldsI
import Derived.Test.YteiginpjahmppaaDoorLastF
import Derived.Test.YteiginpjahmppaaDoorHold
import Derived.Test.YteiginpjahmppaaDoorWords
import Derived.Test.YteiginpjahmppaaDoorSame
import Derived.Deep.RegionHeld3
import Derived.WalkKit
import Derived.ProofKit
import Derived.OpenShut
import Derived.ShutString
import Derived.ChangeOld
import Derived.Below
import Derived.SizedLaws
import Derived.Lib.SmallJoins
import Derived.Deep.CondSized
import Derived.Deep.DeepHandedRow
import Derived.Deep.DeepWitnessRowRef
namespace Go.Proofs.YteiginpjahmppaaDoor.fnTrimSpaceTestUpto
open Go.ChangeShapes Go.WideShapes Go.ChangeAt Go.RowKit Go.Joins
open Go.ChangeMaps (open_string shut_string)
set_option linter.unusedVariables false

theorem own : ownKnob Tryd.prog.godebug = none := by kernel_rfl
theorem laidOut : laidOutB Tryd.prog = true := by kernel_rfl
set_option maxHeartbeats 1000000 in
theorem walk (a0 : ByteArray) (w : World) (w0 : a0.size ≤ 1048576) (hT : Tabs w) (hS : Spaces w) :
    Calls Tryd.prog 11 #[.string a0] w fun e w' => e = .returned (.bool true) ∧ Below w.heap.size w w' := by
  have HT := Lib.hid hT; have HS := Lib.hid hS; clear hT hS
  have hbl := blank_len
  have hbl2 : (blankK 12289).length ≤ 35184372088832 := Nat.le_trans (blankK_len _) (by decide)
  have hLn := fieldsP_len Lib.isSpaceR a0
  have CB := Lib.hid (laws_blanks w)
  have CF := Lib.hid (fun (W : World) (hb : Below w.heap.size w W) => impl_Fields a0 W (by omega) (HS.out.below hb))
  have CT := Lib.hid (fun (W : World) (hb : Below w.heap.size w W) => impl_TrimSpace a0 W (by omega) (HT.out.below hb) (HS.out.below hb))
  have CFF := Lib.hid (fun (a : Option Addr) (c : Nat) (W : World) (h : Lies W W.heap.size 1 a (blankK 12289).length (ints (blankK 12289))) => (impl_FieldsFunc a _ c (blankK 12289) false a0 W (by omega) h hbl).mono (R' := NewStrs (fieldsP Lib.isSpaceR a0) W) (fun e w' h => by rw [blank_fun] at h; exact h))
  have CTF := Lib.hid (fun (a : Option Addr) (c : Nat) (W : World) (hb : Below w.heap.size w W) (h : Lies W W.heap.size 1 a (blankK 12289).length (ints (blankK 12289))) => (impl_TrimFunc a _ c (blankK 12289) false a0 W (by omega) (HT.out.below hb) h hbl).mono (R' := fun e w' => e = .returned (.string (trimR Lib.isSpaceR (trimL Lib.isSpaceR a0))) ∧ Below W.heap.size W w') (fun e w' h => by rw [blank_fun] at h; exact h))
  have CS := Lib.hid (fun (W : World) => spec_TrimSpace a0 W (by omega))
  have CTe := Lib.hid (fun (a : Option Addr) (c : Nat) (W : World) (ha : a = none → (blankK 12289).length = 0) (h : Lies W W.heap.size 1 a (blankK 12289).length (ints (blankK 12289))) => laws_test a _ c (blankK 12289) false W ha h hbl2)
  unfold BlanksOf at CB
  generalize blankK 12289 = Z at *
  generalize fieldsP Lib.isSpaceR a0 = L at *
  generalize trimR Lib.isSpaceR (trimL Lib.isSpaceR a0) = t at *
  go_enter Tryd.func11, Tryd.ntmps11
  go_wp2_with fail
  refine CB.out.mono ?_; rintro e w1 ⟨ab, cb, rfl, hlb, hnb, hb1⟩
  have B1 := Lib.hid hb1; have HLb := Lib.hid hlb; have HNb := Lib.hid hnb
  clear hb1 hlb hnb
  go_wp2_with fail
  refine (CTe.out ab cb _ HNb.out HLb.out).mono ?_; rintro e w2 ⟨a', c', rfl, hl2, hb2⟩
  have B2 := Lib.hid (B1.out.trans (hb2.mono B1.out.size))
  have hk := TK.new (nt := false) (c := c') hl2 B2.out
  have K := Lib.hid hk
  clear hk hl2 hb2
  go_wp2_with fail
  refine (CT.out _ K.out.b).mono ?_; rintro e w3 ⟨rfl, hb3⟩
  have K := Lib.hid (K.out.later hb3); clear hb3
  generalize hX : w2.heap.size = X at *
  obtain ⟨y0, y1⟩ := K.out.cells
  have hxl : X < w3.heap.size := heap_lt K.out.x
  have K := Lib.hid K.out.drew
  obtain ⟨bt, hbt⟩ : ∃ bt, t.toList.isEmpty = bt := ⟨_, rfl⟩
  go_wp2_with fail
  go_region_held3 (fun w' => w'.cell? ⟨X, 0, none⟩ = some (.slice a' Z.length c') ∧ w'.cell? ⟨X, 1, none⟩ = some (.bool false)) (first | go_keep | exact K.out.cells)
    (first | (go_at_call 15; refine (CTF.out a' c' _ (by exact K.out.b) (by exact K.out.l)).mono ?_; rintro e w4 ⟨rfl, hb4⟩; have K := Lib.hid (K.out.later hb4); clear hb4) | (go_at_call 21; refine (CF.out _ (by exact K.out.b)).mono ?_; rintro e w5 ⟨g5, c5, rfl, ho5, hb5⟩; have K := Lib.hid (K.out.later hb5); have M5 := Lib.hid (show Lies w5 w5.heap.size 1 (some ⟨g5, 0, none⟩) L.length (strs L) from Lies.of_own ho5); clear hb5 ho5) | (go_at_call 14; refine (CFF.out a' c' _ (by exact K.out.l)).mono ?_; rintro e w6 ⟨g6, c6, rfl, ho6, hb6⟩; have K := Lib.hid (K.out.later hb6); have M6 := Lib.hid (M5.out.later hb6); have N6 := Lib.hid (show Lies w6 w6.heap.size 1 (some ⟨g6, 0, none⟩) L.length (strs L) from Lies.of_own ho6); clear hb6 ho6) | (go_at_call 16; refine (laws_same _ _ _ _ L _ M6.out N6.out (by omega)).mono ?_; rintro e w7 ⟨rfl, hd7⟩; have K := Lib.hid (K.out.dr hd7); clear hd7) | (go_at_call 28; refine (CS.out _).mono ?_; rintro e w8 ⟨rfl, hb8⟩; have K := Lib.hid (K.out.later hb8); clear hb8))
  go_wp2_with fail
  go_ret
  exact ⟨rfl, K.out.b⟩

theorem contract (H : Type) (enc : TypeId × Value → H) (W : World) (base : Nat) (args : Array Value) (ds gs : List (DataW H)) (before : List MemPlace)
    (hval0 : ∀ (j : Nat) t v, Tryd.f11.params[j]? = some t → args[j]? = some v → Value.okWide Tryd.prog W .any base t v)
    (hW : DataW.Whole enc Tryd.prog Tryd.f11.params.toList Rows.fnTrimSpaceTestSpec.vars false W args.toList ds gs before)
    (hsz0 : (DataW.weightsEach Tryd.prog (Tryd.f11.params.toList ++ Rows.fnTrimSpaceTestSpec.plain.varTypes Tryd.prog) (ds ++ gs)).all (· ≤ reachBytes) = true) (hk : Rows.uptoSmall H (ds ++ gs) = true) (hL : laidMetH Tryd.prog Rows.fnTrimSpaceTestUptoRow.laid W) :
    Calls Tryd.prog 11 args W fun e W' => ∃ v, e = .returned v ∧ Rows.fnTrimSpaceTestSpec.post enc Tryd.prog Tryd.f11 false true false false W args v W' := by
  have hval := hval0
  have hsz := hsz0
  clear hval0 hsz0
  have hW' := hW
  obtain ⟨p, q, hA0, hV, rfl, hfz, hnd⟩ := hW
  have hA : DataW.TrodAll enc Tryd.prog W 0 (fun _ => true) true Tryd.f11.params.toList args.toList ds p := hA0
  rw [Tryd.params11] at hA hval hsz
  obtain ⟨v0, vs0, d0, ds0, p0, q0, hargs, rfl, rfl, h0, r0x⟩ := trodAll_cons hA
  obtain ⟨rfl, rfl, rfl⟩ := trodAll_nil r0x
  obtain rfl : args = #[v0] := by cases args; simp_all
  obtain ⟨rfl, rfl⟩ := trodVars_none hV
  have hbulk := of_decide_eq_true hk
  obtain ⟨a0, rfl, rfl, rfl, x0⟩ := open_string Tryd.underlying9 (hval 0 9 v0 rfl rfl) h0
  clear hA0
  have w0 : a0.size ≤ 1048576 := by
    simp only [Rows.uptoBulkAll, Rows.uptoBulk, List.append_nil] at hbulk
    have e : a0.data.toList.length = a0.size := by rw [Array.length_toList]; rfl
    omega
  refine (walk a0 W w0 (tabs_of hL (by unfold Rows.fnTrimSpaceTestUptoRow; simp) (by unfold Rows.fnTrimSpaceTestUptoRow; simp)) (spaces_of hL (by unfold Rows.fnTrimSpaceTestUptoRow; simp) (by unfold Rows.fnTrimSpaceTestUptoRow; simp))).mono fun e W' ⟨he, bel⟩ => ?_
  subst he
  exact ⟨_, rfl, _, _, _, [], _, [], hW', trodAll_mk1 (shut_bool Tryd.underlying4 _), (trodAll_cons_mk (shut_string Tryd.underlying9 x0) trodAll_mk0), rfl, bel.frame _, fun h => by cases h⟩

theorem laid_met (os : Os) : laidMet Tryd.prog Rows.fnTrimSpaceTestUptoRow.laid ((laidWorld os).forCall (fun _ _ => 0) ⟨#[], #[.string ByteArray.empty], []⟩).memory :=
  laidMet_of_run' 8 (by kernel_rfl) (by kernel_rfl)
theorem reads (os : Os) {H : Type} (enc : TypeId × Value → H) : ∃ places, DataW.whole enc Tryd.prog ((laidWorld os).forCall (fun _ _ => 0) ⟨#[], #[.string ByteArray.empty], []⟩).memory Tryd.f11.params.toList Rows.fnTrimSpaceTestSpec.vars false (#[.string ByteArray.empty] : Array Value).toList 8 = some ([.lit (.string [])], [], places) :=
  ⟨[], by kernel_rfl⟩
set_option maxRecDepth 100000 in
theorem lifted (os : Os) (started : os.Started) (H : Type) (enc : TypeId × Value → H) (F : Stop.Interp) :
    ReturnsInHanded {} Tryd.checked os 11 .any ((Rows.OpenSpec.upto Rows.fnTrimSpaceTestSpec).preRow enc Tryd.prog Tryd.f11 Rows.fnTrimSpaceTestUptoRow.domain false Rows.fnTrimSpaceTestUptoRow.laid) (((Rows.OpenSpec.upto Rows.fnTrimSpaceTestSpec).at F).post enc Tryd.prog Tryd.f11 false true false false) := by
  obtain ⟨places, hx⟩ := reads os enc
  refine returnsInHanded_of_row (C := Tryd.checked) (s := Rows.OpenSpec.upto Rows.fnTrimSpaceTestSpec) own started (by kernel_rfl) Tryd.func11
    (witness_row_atRef (enc := enc) (C := Tryd.checked) false (laidWorld os) #[.string ByteArray.empty] rfl (by kernel_rfl) (by kernel_rfl) (by kernel_rfl)
      (OpenSpec.preRow_of_cond 8 hx (by kernel_rfl) (fun k hk => by cases hk; kernel_rfl) (by kernel_rfl) (laid_met os))) ?_
  intro W base args ds gs before hval0 hW _ hcond hsz0 hL _ _
  exact contract H enc W base args ds gs before hval0 hW hsz0 (hcond _ rfl) hL

theorem said : Rows.FnTrimSpaceTestUptoSaid :=
  OpenClaim.holds_of_cond 11 Tryd.f11 rfl rfl rfl rfl rfl rfl rfl ⟨rfl, rfl, rfl, rfl, rfl⟩ rfl rfl rfl rfl rfl (by kernel_rfl) Tryd.func11 (by kernel_rfl)
    (of_decide_eq_true (by kernel_rfl)) (by unfold Func.isWrapper; first | (rw [if_pos (by decide +kernel)]; kernel_rfl) | (rw [if_neg (by decide +kernel)]; exact ⟨rfl, rfl⟩))
    (fun os started H enc _ F => by rw [OpenClaim.pre_eq_preRow]; exact lifted os started H enc F)

theorem plain (f : FuncId) (fn : Func) (hf : Tryd.pinned.checked.prog.funcNamed Rows.fnTrimSpaceTestUptoRow.func = some f) (hfn : Tryd.pinned.checked.prog.funcs[f]? = some fn) :
    false = Tryd.pinned.checked.prog.looks [] ∧ ∀ (j : Nat) t, fn.params[j]? = some t → Tryd.pinned.checked.prog.wantsStandIn t = false := by
  obtain rfl : f = 11 := Option.some.inj ((show Tryd.prog.funcNamed Rows.fnTrimSpaceTestUptoRow.func = some 11 by kernel_rfl).symm.trans hf) |>.symm
  obtain rfl : fn = Tryd.f11 := (Option.some.inj (Tryd.func11.symm.trans hfn)).symm
  refine ⟨by kernel_rfl, fun j t ht => ?_⟩
  rw [Tryd.params11] at ht
  have hm := Array.mem_of_getElem? ht
  simp only [List.mem_toArray, List.mem_cons, List.mem_nil_iff, or_false] at hm
  subst hm
  exact (show Tryd.prog.wantsStandIn 9 = false by kernel_rfl)

theorem proved : Rows.FnTrimSpaceTestUptoCardSaid :=
  Claim7.holds_tied_plain_at .later [] _ _ _ _ said (fun _ h => by cases h) (by kernel_rfl) (fun _ h => by cases h) fnTrimSpaceTestUpto_row_tie rfl ⟨rfl, rfl⟩ (by kernel_rfl) rfl plain (by kernel_rfl)
#print axioms proved
end Go.Proofs.YteiginpjahmppaaDoor.fnTrimSpaceTestUpto
