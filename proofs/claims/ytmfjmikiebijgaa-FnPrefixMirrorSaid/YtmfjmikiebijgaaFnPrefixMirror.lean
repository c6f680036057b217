/-
  For all two texts the law FnPrefixMirror returns true and changes nothing. No condition.
-/
import Derived.Test.YtmfjmikiebijgaaRows
import Derived.Test.YtmfjmikiebijgaaImplA
import Derived.Test.YtmfjmikiebijgaaPlainB
import Derived.Test.YtmfjmikiebijgaaBack
import Derived.WalkKit
import Derived.ProofKit
import Derived.OpenShut
import Derived.ShutString
import Derived.ChangeOld
import Derived.Below
import Derived.SizedLaws
import Derived.Lib.SmallJoins
import Derived.Deep.CondSized
namespace Go.Proofs.Ytmfjmikiebijgaa.fnPrefixMirror
open Go.ChangeShapes Go.WideShapes Go.ChangeAt Go.RowKit Go.Joins
open Go.ChangeMaps (open_string shut_string)
set_option linter.unusedVariables false

theorem own : ownKnob Try.prog.godebug = none := by kernel_rfl
theorem laidOut : laidOutB Try.prog = true := by kernel_rfl
theorem mirror_has (s p : List UInt8) : Lib.hasSuffix s p = Lib.hasPrefix s.reverse p.reverse := by
  rw [Bool.eq_iff_iff, hs_iff, hp_iff]
  constructor
  · rintro ⟨t, rfl⟩; exact ⟨t.reverse, by simp⟩
  · rintro ⟨t, h⟩; refine ⟨t.reverse, ?_⟩; have := congrArg List.reverse h; simpa using this
theorem mirror_trim (s p : List UInt8) : Lib.trimSuffix s p = (Lib.trimPrefix s.reverse p.reverse).reverse := by
  cases h : Lib.hasSuffix s p
  · rw [ts_no _ _ h, tp_no _ _ (by rw [← mirror_has, h])]; simp
  · obtain ⟨t, rfl⟩ := (hs_iff _ _).1 h
    rw [ts_app, List.reverse_append, tp_app]; simp
set_option maxHeartbeats 1000000 in
theorem walk (a0 : ByteArray) (a1 : ByteArray) (w : World) (w0 : a0.size ≤ 140737488351232) (w1 : a1.size ≤ 140737488351232) :
    Calls Try.prog 3 #[.string a0, .string a1] w fun e w' => e = .returned (.bool true) ∧ Below w.heap.size w w' := by
  have hsf := mirror_has a0.data.toList a1.data.toList
  have htr := mirror_trim a0.data.toList a1.data.toList
  generalize hX : Lib.trimPrefix a0.data.toList.reverse a1.data.toList.reverse = X at *
  have hXl : X.length ≤ 140737488351232 := by rw [← hX]; have := Lib.trimPrefix_le a0.data.toList.reverse a1.data.toList.reverse; rw [List.length_reverse, len_data] at this; omega
  have HX := Lib.hid hX
  have HR := Lib.hid htr
  cases h : Lib.hasSuffix a0.data.toList a1.data.toList
  · have hp : Lib.hasPrefix a0.data.toList.reverse a1.data.toList.reverse = false := by rw [← hsf, h]
    have ha : (⟨X.reverse.toArray⟩ : ByteArray) = a0 := ba_ext (by rw [data_mk, ← htr, ts_no _ _ h])
    have HA := Lib.hid ha; have H := Lib.hid h; have HP := Lib.hid hp
    clear hX htr h hp hsf ha
    go_enter Try.func3, Try.ntmps3
    go_wp2_with fail
    refine (impl_CutSuffix _ _ (by omega) _).mono ?_; rintro e w' ⟨rfl, rfl⟩; rw [H.out, HR.out]
    go_wp2_with fail
    refine (back_any _ w0 _).mono ?_; rintro e w1' ⟨rfl, hb1⟩
    have B1 := Lib.hid hb1; clear hb1
    go_wp2_with fail
    refine (back_any _ w1 _).mono ?_; rintro e w2' ⟨rfl, hb2⟩
    have B2 := Lib.hid (B1.out.trans (hb2.mono B1.out.size)); clear hb2 B1
    go_wp2_with fail
    refine (impl_CutPrefix _ _ _).mono ?_; rintro e w' ⟨rfl, rfl⟩; rw [data_mk, data_mk, HP.out, HX.out]
    go_wp2_with fail
    refine (back_any _ (by rw [Lib.size_eq, data_mk]; exact hXl) _).mono ?_; rintro e w3' ⟨rfl, hb3⟩; rw [data_mk]
    have B3 := Lib.hid (B2.out.trans (hb3.mono B2.out.size)); clear hb3 B2
    rw [HA.out]
    go_wp2_with fail
    go_ret
    exact ⟨rfl, B3.out⟩
  · have hp : Lib.hasPrefix a0.data.toList.reverse a1.data.toList.reverse = true := by rw [← hsf, h]
    have H := Lib.hid h; have HP := Lib.hid hp
    clear hX htr h hp hsf
    go_enter Try.func3, Try.ntmps3
    go_wp2_with fail
    refine (impl_CutSuffix _ _ (by omega) _).mono ?_; rintro e w' ⟨rfl, rfl⟩; rw [H.out, HR.out]
    go_wp2_with fail
    refine (back_any _ w0 _).mono ?_; rintro e w1' ⟨rfl, hb1⟩
    have B1 := Lib.hid hb1; clear hb1
    go_wp2_with fail
    refine (back_any _ w1 _).mono ?_; rintro e w2' ⟨rfl, hb2⟩
    have B2 := Lib.hid (B1.out.trans (hb2.mono B1.out.size)); clear hb2 B1
    go_wp2_with fail
    refine (impl_CutPrefix _ _ _).mono ?_; rintro e w' ⟨rfl, rfl⟩; rw [data_mk, data_mk, HP.out, HX.out]
    go_wp2_with fail
    refine (back_any _ (by rw [Lib.size_eq, data_mk]; exact hXl) _).mono ?_; rintro e w3' ⟨rfl, hb3⟩; rw [data_mk]
    have B3 := Lib.hid (B2.out.trans (hb3.mono B2.out.size)); clear hb3 B2
    go_wp2_with fail
    go_ret
    exact ⟨rfl, B3.out⟩

theorem contract (H : Type) (enc : TypeId × Value → H) (W : World) (base : Nat) (args : Array Value) (ds gs : List (DataW H)) (before : List MemPlace)
    (hval0 : ∀ (j : Nat) t v, Try.f3.params[j]? = some t → args[j]? = some v → Value.okWide Try.prog W .any base t v)
    (hW : DataW.Whole enc Try.prog Try.f3.params.toList Rows.fnPrefixMirrorSpec.vars false W args.toList ds gs before)
    (hsz0 : (DataW.weightsEach Try.prog (Try.f3.params.toList ++ Rows.fnPrefixMirrorSpec.plain.varTypes Try.prog) (ds ++ gs)).all (· ≤ reachBytes) = true) :
    Calls Try.prog 3 args W fun e W' => ∃ v, e = .returned v ∧ Rows.fnPrefixMirrorSpec.post enc Try.prog Try.f3 false true false false W args v W' := by
  have hval := hval0
  have hsz := hsz0
  clear hval0 hsz0
  have hW' := hW
  obtain ⟨p, q, hA0, hV, rfl, hfz, hnd⟩ := hW
  have hA : DataW.TrodAll enc Try.prog W 0 (fun _ => true) true Try.f3.params.toList args.toList ds p := hA0
  rw [Try.params3] at hA hval hsz
  obtain ⟨v0, vs0, d0, ds0, p0, q0, hargs, rfl, rfl, h0, r0x⟩ := trodAll_cons hA
  obtain ⟨v1, vs1, d1, ds1, p1, q1, rfl, rfl, rfl, h1, r1x⟩ := trodAll_cons r0x
  obtain ⟨rfl, rfl, rfl⟩ := trodAll_nil r1x
  obtain rfl : args = #[v0, v1] := by cases args; simp_all
  obtain ⟨rfl, rfl⟩ := trodVars_none hV
  obtain ⟨a0, rfl, rfl, rfl, x0⟩ := open_string Try.underlying9 (hval 0 9 v0 rfl rfl) h0
  obtain ⟨a1, rfl, rfl, rfl, x1⟩ := open_string Try.underlying9 (hval 1 9 v1 rfl rfl) h1
  clear hA0
  have w0 : a0.size ≤ 140737488351232 := by have := sized_string hsz (j := 0) (t := 9) rfl rfl; simpa [reachBytes] using this
  have w1 : a1.size ≤ 140737488351232 := by have := sized_string hsz (j := 1) (t := 9) rfl rfl; simpa [reachBytes] using this
  refine (walk a0 a1 W w0 w1).mono fun e W' ⟨he, bel⟩ => ?_
  subst he
  exact ⟨_, rfl, _, _, _, [], _, [], hW', trodAll_mk1 (shut_bool Try.underlying4 _), (trodAll_cons_mk (shut_string Try.underlying9 x0) (trodAll_cons_mk (shut_string Try.underlying9 x1) trodAll_mk0)), rfl, bel.frame _, fun h => by cases h⟩

set_option maxRecDepth 100000 in
theorem lifted (os : Os) (started : os.Started) (H : Type) (enc : TypeId × Value → H) :
    ReturnsInHanded {} Try.checked os 3 .any (Rows.fnPrefixMirrorSpec.pre6 enc Try.prog Try.f3 Rows.fnPrefixMirrorRow.domain false) (Rows.fnPrefixMirrorSpec.post enc Try.prog Try.f3 false true false false) := by
  refine returnsInHanded_of_change_sized (C := Try.checked) own started (by kernel_rfl) Try.func3
    (ChangeSpec.witness6 (enc := enc) (C := Try.checked) false ⟨#[], #[.string ByteArray.empty, .string ByteArray.empty], []⟩ 8 (by kernel_rfl) (by kernel_rfl) (by kernel_rfl) (by kernel_rfl)) ?_
  intro W base args ds gs before hval0 hW hcnd hsz0 _
  exact contract H enc W base args ds gs before hval0 hW hsz0

theorem proved : Rows.FnPrefixMirrorSaid :=
  OpenClaim.holds_of_wide 3 Try.f3 rfl rfl rfl rfl rfl rfl rfl ⟨rfl, rfl, rfl, rfl, rfl⟩ rfl rfl rfl rfl rfl (by kernel_rfl) Try.func3 (by kernel_rfl)
    (of_decide_eq_true (by kernel_rfl)) (by unfold Func.isWrapper; first | (rw [if_pos (by decide +kernel)]; kernel_rfl) | (rw [if_neg (by decide +kernel)]; exact ⟨rfl, rfl⟩))
    (fun os started H enc _ => lifted os started H enc)
#print axioms proved
end Go.Proofs.Ytmfjmikiebijgaa.fnPrefixMirror
