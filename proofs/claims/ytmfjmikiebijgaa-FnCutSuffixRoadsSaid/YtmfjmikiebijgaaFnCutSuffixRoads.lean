/-
  For all two texts the law FnCutSuffixRoads returns true and changes nothing. No condition.
-/
import Derived.Test.YtmfjmikiebijgaaRows
import Derived.Test.YtmfjmikiebijgaaImplA
import Derived.Test.YtmfjmikiebijgaaPlainB
import Derived.WalkKit
import Derived.ProofKit
import Derived.OpenShut
import Derived.ShutString
import Derived.SizedLaws
namespace Go.Proofs.Ytmfjmikiebijgaa.fnCutSuffixRoads
open Go.ChangeShapes Go.WideShapes Go.ChangeAt Go.RowKit
open Go.ChangeMaps (open_string shut_string)
set_option linter.unusedVariables false      -- a walk need not use every 'w<i>' (that an integer argument fits its kind)

theorem own : ownKnob Try.prog.godebug = none := by kernel_rfl

set_option maxHeartbeats 1000000 in
theorem walk (a0 : ByteArray) (a1 : ByteArray) (w0 : a0.size ≤ 140737488351232) (w1 : a1.size ≤ 140737488351232) (w : World) :
    Calls Try.prog 5 #[.string a0, .string a1] w fun e w' => e = .returned (.bool true) ∧ Grown w w' := by
  generalize hT : (⟨(Lib.trimSuffix a0.data.toList a1.data.toList).toArray⟩ : ByteArray) = T
  have hz : T.size ≤ 140737488351232 := by have h2 := Lib.trimSuffix_le a0.data.toList a1.data.toList; rw [← hT, Lib.size_eq, data_mk]; rw [len_data] at h2; omega
  have HT := Lib.hid hT
  cases h : Lib.hasSuffix a0.data.toList a1.data.toList
  · have hg : T = a0 := by rw [← hT]; apply ba_ext; rw [data_mk, ts_no _ _ h]
    clear hT
    subst hg
    have H := Lib.hid h; clear h
    go_enter Try.func5, Try.ntmps5
    go_wp2_with fail
    refine (impl_CutSuffix _ _ (by omega) _).mono ?_; rintro e w' ⟨rfl, rfl⟩; rw [H.out, HT.out]
    go_wp2_with fail
    refine (impl_HasSuffix _ _ (by omega) _).mono ?_; rintro e w' ⟨rfl, rfl⟩; rw [H.out]
    go_wp2_with fail
    refine (impl_TrimSuffix _ _ (by omega) _).mono ?_; rintro e w' ⟨rfl, rfl⟩; rw [HT.out]
    go_wp2_with fail
    go_ret
    exact ⟨rfl, Grown.refl _⟩
  · have hg : T ++ a1 = a0 := by
      obtain ⟨t, ht⟩ := (hs_iff _ _).1 h
      rw [← hT]; apply ba_ext; rw [dapp, data_mk, ht, ts_app]
    have hg2 : ((T ++ a1).toList == a0.toList) = true := by rw [hg]; simp
    clear hT hg
    have H := Lib.hid h; clear h
    go_enter Try.func5, Try.ntmps5
    go_wp2_with fail
    refine (impl_CutSuffix _ _ (by omega) _).mono ?_; rintro e w' ⟨rfl, rfl⟩; rw [H.out, HT.out]
    go_wp2_with fail
    refine (impl_HasSuffix _ _ (by omega) _).mono ?_; rintro e w' ⟨rfl, rfl⟩; rw [H.out]
    go_wp2_with fail
    refine (impl_TrimSuffix _ _ (by omega) _).mono ?_; rintro e w' ⟨rfl, rfl⟩; rw [HT.out]
    go_wp2_with fail
    go_ret
    exact ⟨rfl, Grown.refl _⟩

set_option maxRecDepth 100000 in
theorem lifted (os : Os) (started : os.Started) (H : Type) (enc : TypeId × Value → H) :
    ReturnsInHanded {} Try.checked os 5 .any (Rows.fnCutSuffixRoadsSpec.pre6 enc Try.prog Try.f5 Rows.fnCutSuffixRoadsRow.domain false) (Rows.fnCutSuffixRoadsSpec.post enc Try.prog Try.f5 false true false false) := by
  refine returnsInHanded_of_change_sized (C := Try.checked) own started (by kernel_rfl) Try.func5
    (ChangeSpec.witness6 (enc := enc) (C := Try.checked) false ⟨#[], #[.string ByteArray.empty, .string ByteArray.empty], []⟩ 8 (by kernel_rfl) (by kernel_rfl) (by kernel_rfl) (by kernel_rfl)) ?_
  intro W base args ds gs before hval0 hW hcnd hsz0 _
  have hval : ∀ (j : Nat) t v, Try.f5.params[j]? = some t → args[j]? = some v → Value.okWide Try.prog W .any base t v := hval0
  have hsz : (DataW.weightsEach Try.prog (Try.f5.params.toList ++ Rows.fnCutSuffixRoadsSpec.plain.varTypes Try.prog) (ds ++ gs)).all (· ≤ reachBytes) = true := hsz0
  clear hsz0
  have hW' := hW
  obtain ⟨p, q, hA0, hV, rfl, hfz, hnd⟩ := hW
  have hA : DataW.TrodAll enc Try.prog W 0 (fun _ => true) true Try.f5.params.toList args.toList ds p := hA0
  rw [Try.params5] at hA hval hsz
  obtain ⟨v0, vs0, d0, ds0, p0, q0, hargs, rfl, rfl, h0, r0⟩ := trodAll_cons hA
  obtain ⟨v1, vs1, d1, ds1, p1, q1, rfl, rfl, rfl, h1, r1⟩ := trodAll_cons r0
  obtain ⟨rfl, rfl, rfl⟩ := trodAll_nil r1
  obtain rfl : args = #[v0, v1] := by cases args; simp_all
  obtain ⟨rfl, rfl⟩ := trodVars_none hV
  obtain ⟨a0, rfl, rfl, rfl, w0⟩ := open_string Try.underlying9 (hval 0 9 v0 rfl rfl) h0
  obtain ⟨a1, rfl, rfl, rfl, w1⟩ := open_string Try.underlying9 (hval 1 9 v1 rfl rfl) h1
  clear hA0 hval0
  simp only [List.append_nil] at hW'
  have r0 : a0.size ≤ 140737488351232 := by have := sized_string hsz (j := 0) (t := 9) rfl rfl; simpa [reachBytes] using this
  have r1 : a1.size ≤ 140737488351232 := by have := sized_string hsz (j := 1) (t := 9) rfl rfl; simpa [reachBytes] using this
  refine (walk a0 a1 r0 r1 W).mono fun e W' ⟨he, hg⟩ => ?_
  subst he
  exact ⟨_, rfl, post_of_same (pa := []) (pv := []) hW' (fun _ _ _ => (trodAll_cons_mk (shut_bool Try.underlying4 _) trodAll_mk0)) (fun sp _ => (trodAll_cons_mk (shut_string Try.underlying9 w0) (trodAll_cons_mk (shut_string Try.underlying9 w1) trodAll_mk0))) (fun _ _ => rfl) rfl
    (hg.frame _) hg.2.1 (ok_one (by kernel_rfl) rfl (okWide_bool_mk Try.underlying4 _))⟩

theorem over : Rows.fnCutSuffixRoadsRow.holds Try.pinned (OpenSpec.ofChange Rows.fnCutSuffixRoadsSpec) :=
  OpenClaim.holds_of_wide 5 Try.f5 rfl rfl rfl rfl rfl rfl rfl ⟨rfl, rfl, rfl, rfl, rfl⟩ rfl rfl rfl rfl rfl (by kernel_rfl) Try.func5 (by kernel_rfl)
    (of_decide_eq_true (by kernel_rfl)) (by unfold Func.isWrapper; first | (rw [if_pos (by decide +kernel)]; kernel_rfl) | (rw [if_neg (by decide +kernel)]; exact ⟨rfl, rfl⟩))
    (fun os started H enc _ => lifted os started H enc)

theorem proved : Rows.FnCutSuffixRoadsSaid :=
  over
#print axioms proved
end Go.Proofs.Ytmfjmikiebijgaa.fnCutSuffixRoads
