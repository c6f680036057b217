/-
  For all two texts the law FnPrefixCompare returns true and changes nothing. No condition.
-/
import Derived.Test.YtddlenodpjhmgaaRows
import Derived.Test.YtddlenodpjhmgaaImplA
import Derived.Test.YtddlenodpjhmgaaPlainA
import Derived.WalkKit
import Derived.ProofKit
import Derived.OpenShut
import Derived.ShutString
import Derived.SizedLaws
namespace Go.Proofs.Ytddlenodpjhmgaa.fnPrefixCompare
open Go.ChangeShapes Go.WideShapes Go.ChangeAt Go.RowKit
open Go.ChangeMaps (open_string shut_string)
set_option linter.unusedVariables false      -- a walk need not use every 'w<i>' (that an integer argument fits its kind)

theorem own : ownKnob Try.prog.godebug = none := by kernel_rfl

theorem pre_cmp {s p : ByteArray} (h : Lib.hasPrefix s.data.toList p.data.toList = true) :
    Lib.compareBytes p.data.toList s.data.toList = if (Lib.trimPrefix s.data.toList p.data.toList) = [] then 0 else -1 := by
  unfold Lib.trimPrefix; rw [if_pos h]
  unfold Lib.hasPrefix at h
  obtain ⟨t, ht⟩ := List.isPrefixOf_iff_prefix.1 h
  rw [← ht]; simp only [List.drop_left]
  by_cases e : t = []
  · subst e; simp [cmp_refl]
  · rw [if_neg e, cmp_ahead _ _ e]
set_option maxHeartbeats 1000000 in
theorem walk (a0 : ByteArray) (a1 : ByteArray) (w0 : a0.size ≤ 140737488351232) (w1 : a1.size ≤ 140737488351232) (w : World) :
    Calls Try.prog 14 #[.string a0, .string a1] w fun e w' => e = .returned (.bool true) ∧ Grown w w' := by
  cases h : Lib.hasPrefix a0.data.toList a1.data.toList
  · have H := Lib.hid h; clear h
    go_enter Try.func14, Try.ntmps14
    go_wp2_with fail
    refine (impl_HasPrefix _ _ _).mono ?_
    rintro e w' ⟨rfl, rfl⟩
    rw [H.out]
    go_wp2_with fail
    refine (spec_HasPrefix _ _ _).mono ?_
    rintro e w' ⟨rfl, rfl⟩
    rw [H.out]
    go_wp2_with fail
    go_ret
    exact ⟨rfl, Grown.refl _⟩
  · have hc := pre_cmp h
    have H := Lib.hid h; clear h
    generalize ht : Lib.trimPrefix a0.data.toList a1.data.toList = t at *
    have T := Lib.hid ht; clear ht
    by_cases e : t = []
    · rw [if_pos e] at hc
      subst e
      have C := Lib.hid hc; clear hc
      go_enter Try.func14, Try.ntmps14
      go_wp2_with fail
      refine (impl_HasPrefix _ _ _).mono ?_
      rintro e w' ⟨rfl, rfl⟩
      rw [H.out]
      go_wp2_with fail
      refine (impl_Compare _ _ _).mono ?_
      rintro e w' ⟨rfl, rfl⟩
      rw [C.out]
      go_wp2_with fail
      refine (impl_TrimPrefix _ _ _).mono ?_
      rintro e w' ⟨rfl, rfl⟩
      rw [T.out]
      go_wp2_with fail
      go_ret
      exact ⟨rfl, Grown.refl _⟩
    · rw [if_neg e] at hc
      have te : t.isEmpty = false := by simpa using e
      clear e
      have C := Lib.hid hc; clear hc
      go_enter Try.func14, Try.ntmps14
      go_wp2_with fail
      refine (impl_HasPrefix _ _ _).mono ?_
      rintro e w' ⟨rfl, rfl⟩
      rw [H.out]
      go_wp2_with fail
      refine (impl_Compare _ _ _).mono ?_
      rintro e w' ⟨rfl, rfl⟩
      rw [C.out]
      go_wp2_with fail
      refine (impl_TrimPrefix _ _ _).mono ?_
      rintro e w' ⟨rfl, rfl⟩
      rw [T.out]
      go_wp2_with fail
      go_ret
      exact ⟨rfl, Grown.refl _⟩

set_option maxRecDepth 100000 in
theorem lifted (os : Os) (started : os.Started) (H : Type) (enc : TypeId × Value → H) :
    ReturnsInHanded {} Try.checked os 14 .any (Rows.fnPrefixCompareSpec.pre6 enc Try.prog Try.f14 Rows.fnPrefixCompareRow.domain false) (Rows.fnPrefixCompareSpec.post enc Try.prog Try.f14 false true false false) := by
  refine returnsInHanded_of_change_sized (C := Try.checked) own started (by kernel_rfl) Try.func14
    (ChangeSpec.witness6 (enc := enc) (C := Try.checked) false ⟨#[], #[.string ByteArray.empty, .string ByteArray.empty], []⟩ 8 (by kernel_rfl) (by kernel_rfl) (by kernel_rfl) (by kernel_rfl)) ?_
  intro W base args ds gs before hval0 hW hcnd hsz0 _
  have hval : ∀ (j : Nat) t v, Try.f14.params[j]? = some t → args[j]? = some v → Value.okWide Try.prog W .any base t v := hval0
  have hsz : (DataW.weightsEach Try.prog (Try.f14.params.toList ++ Rows.fnPrefixCompareSpec.plain.varTypes Try.prog) (ds ++ gs)).all (· ≤ reachBytes) = true := hsz0
  clear hsz0
  have hW' := hW
  obtain ⟨p, q, hA0, hV, rfl, hfz, hnd⟩ := hW
  have hA : DataW.TrodAll enc Try.prog W 0 (fun _ => true) true Try.f14.params.toList args.toList ds p := hA0
  rw [Try.params14] at hA hval hsz
  obtain ⟨v0, vs0, d0, ds0, p0, q0, hargs, rfl, rfl, h0, r0⟩ := trodAll_cons hA
  obtain ⟨v1, vs1, d1, ds1, p1, q1, rfl, rfl, rfl, h1, r1⟩ := trodAll_cons r0
  obtain ⟨rfl, rfl, rfl⟩ := trodAll_nil r1
  obtain rfl : args = #[v0, v1] := by cases args; simp_all
  obtain ⟨rfl, rfl⟩ := trodVars_none hV
  obtain ⟨a0, rfl, rfl, rfl, w0⟩ := open_string Try.underlying9 (hval 0 9 v0 rfl rfl) h0
  obtain ⟨a1, rfl, rfl, rfl, w1⟩ := open_string Try.underlying9 (hval 1 9 v1 rfl rfl) h1
  clear hA0 hval0
  simp only [List.append_nil] at hW'
  have r0 : a0.size ≤ 140737488351232 := by have := sized_string hsz (j := 0) (t := 9) rfl rfl; simpa [reachBytes] using this
  have r1 : a1.size ≤ 140737488351232 := by have := sized_string hsz (j := 1) (t := 9) rfl rfl; simpa [reachBytes] using this
  refine (walk a0 a1 r0 r1 W).mono fun e W' ⟨he, hg⟩ => ?_
  subst he
  exact ⟨_, rfl, post_of_same (pa := []) (pv := []) hW' (fun _ _ _ => (trodAll_cons_mk (shut_bool Try.underlying4 _) trodAll_mk0)) (fun sp _ => (trodAll_cons_mk (shut_string Try.underlying9 w0) (trodAll_cons_mk (shut_string Try.underlying9 w1) trodAll_mk0))) (fun _ _ => rfl) rfl
    (hg.frame _) hg.2.1 (ok_one (by kernel_rfl) rfl (okWide_bool_mk Try.underlying4 _))⟩

theorem over : Rows.fnPrefixCompareRow.holds Try.pinned (OpenSpec.ofChange Rows.fnPrefixCompareSpec) :=
  OpenClaim.holds_of_wide 14 Try.f14 rfl rfl rfl rfl rfl rfl rfl ⟨rfl, rfl, rfl, rfl, rfl⟩ rfl rfl rfl rfl rfl (by kernel_rfl) Try.func14 (by kernel_rfl)
    (of_decide_eq_true (by kernel_rfl)) (by unfold Func.isWrapper; first | (rw [if_pos (by decide +kernel)]; kernel_rfl) | (rw [if_neg (by decide +kernel)]; exact ⟨rfl, rfl⟩))
    (fun os started H enc _ => lifted os started H enc)

theorem proved : Rows.FnPrefixCompareSaid :=
  over
#print axioms proved
end Go.Proofs.Ytddlenodpjhmgaa.fnPrefixCompare
