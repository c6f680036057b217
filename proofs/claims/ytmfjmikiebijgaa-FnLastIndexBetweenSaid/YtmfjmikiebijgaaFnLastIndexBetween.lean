/-
  For all three texts the law FnLastIndexBetween returns true and changes nothing. No condition.
-/
import Derived.Test.YtmfjmikiebijgaaRows
import Derived.Test.YtmfjmikiebijgaaSpecB
import Derived.Test.YtmfjmikiebijgaaPlainB
import Derived.WalkKit
import Derived.ProofKit
import Derived.OpenShut
import Derived.ShutString
import Derived.SizedLaws
namespace Go.Proofs.Ytmfjmikiebijgaa.fnLastIndexBetween
open Go.ChangeShapes Go.WideShapes Go.ChangeAt Go.RowKit
open Go.ChangeMaps (open_string shut_string)
set_option linter.unusedVariables false      -- a walk need not use every 'w<i>' (that an integer argument fits its kind)

theorem own : ownKnob Try.prog.godebug = none := by kernel_rfl

set_option maxHeartbeats 1000000 in
theorem walk (a0 : ByteArray) (a1 : ByteArray) (a2 : ByteArray) (w0 : a0.size ≤ 140737488351232) (w1 : a1.size ≤ 140737488351232) (w2 : a2.size ≤ 140737488351232) (w : World) :
    Calls Try.prog 8 #[.string a0, .string a1, .string a2] w fun e w' => e = .returned (.bool true) ∧ Grown w w' := by
  obtain ⟨k, hk, hk1, hk2⟩ := last_between a0.data.toList a1.data.toList a2.data.toList
  rw [len_data] at hk1 hk2; rw [len_data] at hk2
  have e1 : Lib.lastIndex (a0 ++ a1 ++ a2).data.toList a1.data.toList = k := by rw [dapp, dapp, hk]
  have e2 : Lib.lastIndex (a0 ++ a1).data.toList a1.data.toList = a0.size := by rw [dapp, last_app, len_data]
  have hz : (a0 ++ a1 ++ a2).size ≤ 2305843009213693952 := by simp; omega
  have hz2 : (a0 ++ a1).size ≤ 2305843009213693952 := by simp; omega
  have E1 := Lib.hid e1; have E2 := Lib.hid e2; have Z1 := Lib.hid hz; have Z2 := Lib.hid hz2
  clear e1 e2 hz hz2 hk
  go_enter Try.func8, Try.ntmps8
  go_wp2_with fail
  refine (impl_LastIndex _ _ Z1.out _).mono ?_; rintro e w' ⟨rfl, rfl⟩; rw [E1.out]
  go_wp2_with fail
  refine (impl_LastIndex _ _ Z2.out _).mono ?_; rintro e w' ⟨rfl, rfl⟩; rw [E2.out]
  go_wp2_with fail
  go_ret
  exact ⟨rfl, Grown.refl _⟩

set_option maxRecDepth 100000 in
theorem lifted (os : Os) (started : os.Started) (H : Type) (enc : TypeId × Value → H) :
    ReturnsInHanded {} Try.checked os 8 .any (Rows.fnLastIndexBetweenSpec.pre6 enc Try.prog Try.f8 Rows.fnLastIndexBetweenRow.domain false) (Rows.fnLastIndexBetweenSpec.post enc Try.prog Try.f8 false true false false) := by
  refine returnsInHanded_of_change_sized (C := Try.checked) own started (by kernel_rfl) Try.func8
    (ChangeSpec.witness6 (enc := enc) (C := Try.checked) false ⟨#[], #[.string ByteArray.empty, .string ByteArray.empty, .string ByteArray.empty], []⟩ 8 (by kernel_rfl) (by kernel_rfl) (by kernel_rfl) (by kernel_rfl)) ?_
  intro W base args ds gs before hval0 hW hcnd hsz0 _
  have hval : ∀ (j : Nat) t v, Try.f8.params[j]? = some t → args[j]? = some v → Value.okWide Try.prog W .any base t v := hval0
  have hsz : (DataW.weightsEach Try.prog (Try.f8.params.toList ++ Rows.fnLastIndexBetweenSpec.plain.varTypes Try.prog) (ds ++ gs)).all (· ≤ reachBytes) = true := hsz0
  clear hsz0
  have hW' := hW
  obtain ⟨p, q, hA0, hV, rfl, hfz, hnd⟩ := hW
  have hA : DataW.TrodAll enc Try.prog W 0 (fun _ => true) true Try.f8.params.toList args.toList ds p := hA0
  rw [Try.params8] at hA hval hsz
  obtain ⟨v0, vs0, d0, ds0, p0, q0, hargs, rfl, rfl, h0, r0⟩ := trodAll_cons hA
  obtain ⟨v1, vs1, d1, ds1, p1, q1, rfl, rfl, rfl, h1, r1⟩ := trodAll_cons r0
  obtain ⟨v2, vs2, d2, ds2, p2, q2, rfl, rfl, rfl, h2, r2⟩ := trodAll_cons r1
  obtain ⟨rfl, rfl, rfl⟩ := trodAll_nil r2
  obtain rfl : args = #[v0, v1, v2] := by cases args; simp_all
  obtain ⟨rfl, rfl⟩ := trodVars_none hV
  obtain ⟨a0, rfl, rfl, rfl, w0⟩ := open_string Try.underlying9 (hval 0 9 v0 rfl rfl) h0
  obtain ⟨a1, rfl, rfl, rfl, w1⟩ := open_string Try.underlying9 (hval 1 9 v1 rfl rfl) h1
  obtain ⟨a2, rfl, rfl, rfl, w2⟩ := open_string Try.underlying9 (hval 2 9 v2 rfl rfl) h2
  clear hA0 hval0
  simp only [List.append_nil] at hW'
  have r0 : a0.size ≤ 140737488351232 := by have := sized_string hsz (j := 0) (t := 9) rfl rfl; simpa [reachBytes] using this
  have r1 : a1.size ≤ 140737488351232 := by have := sized_string hsz (j := 1) (t := 9) rfl rfl; simpa [reachBytes] using this
  have r2 : a2.size ≤ 140737488351232 := by have := sized_string hsz (j := 2) (t := 9) rfl rfl; simpa [reachBytes] using this
  refine (walk a0 a1 a2 r0 r1 r2 W).mono fun e W' ⟨he, hg⟩ => ?_
  subst he
  exact ⟨_, rfl, post_of_same (pa := []) (pv := []) hW' (fun _ _ _ => (trodAll_cons_mk (shut_bool Try.underlying4 _) trodAll_mk0)) (fun sp _ => (trodAll_cons_mk (shut_string Try.underlying9 w0) (trodAll_cons_mk (shut_string Try.underlying9 w1) (trodAll_cons_mk (shut_string Try.underlying9 w2) trodAll_mk0)))) (fun _ _ => rfl) rfl
    (hg.frame _) hg.2.1 (ok_one (by kernel_rfl) rfl (okWide_bool_mk Try.underlying4 _))⟩

theorem over : Rows.fnLastIndexBetweenRow.holds Try.pinned (OpenSpec.ofChange Rows.fnLastIndexBetweenSpec) :=
  OpenClaim.holds_of_wide 8 Try.f8 rfl rfl rfl rfl rfl rfl rfl ⟨rfl, rfl, rfl, rfl, rfl⟩ rfl rfl rfl rfl rfl (by kernel_rfl) Try.func8 (by kernel_rfl)
    (of_decide_eq_true (by kernel_rfl)) (by unfold Func.isWrapper; first | (rw [if_pos (by decide +kernel)]; kernel_rfl) | (rw [if_neg (by decide +kernel)]; exact ⟨rfl, rfl⟩))
    (fun os started H enc _ => lifted os started H enc)

theorem proved : Rows.FnLastIndexBetweenSaid :=
  over
#print axioms proved
end Go.Proofs.Ytmfjmikiebijgaa.fnLastIndexBetween
