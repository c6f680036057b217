/-
  For all three texts the law FnCompareOrder returns true and changes nothing. No condition.
-/
import Derived.Test.YtddlenodpjhmgaaRows
import Derived.Test.YtddlenodpjhmgaaImplA
import Derived.Test.YtddlenodpjhmgaaPlainA
import Derived.WalkKit
import Derived.ProofKit
import Derived.OpenShut
import Derived.ShutString
import Derived.SizedLaws
namespace Go.Proofs.Ytddlenodpjhmgaa.fnCompareOrder
open Go.ChangeShapes Go.WideShapes Go.ChangeAt Go.RowKit
open Go.ChangeMaps (open_string shut_string)
set_option linter.unusedVariables false      -- a walk need not use every 'w<i>' (that an integer argument fits its kind)

theorem own : ownKnob Try.prog.godebug = none := by kernel_rfl

theorem same_text (a b : ByteArray) : (a.toList == b.toList) = decide (Lib.compareBytes a.data.toList b.data.toList = 0) := by
  rw [Bool.eq_iff_iff, beq_iff_eq, decide_eq_true_iff, cmp_zero, Lib.toList_data, Lib.toList_data]
set_option maxHeartbeats 1000000 in
theorem walk (a0 : ByteArray) (a1 : ByteArray) (a2 : ByteArray) (w0 : a0.size ≤ 140737488351232) (w1 : a1.size ≤ 140737488351232) (w2 : a2.size ≤ 140737488351232) (w : World) :
    Calls Try.prog 4 #[.string a0, .string a1, .string a2] w fun e w' => e = .returned (.bool true) ∧ Grown w w' := by
  have r1 := cmp_range a0.data.toList a1.data.toList
  have r2 := cmp_range a1.data.toList a2.data.toList
  have r3 := cmp_range a0.data.toList a2.data.toList
  have hon := cmp_on a0.data.toList a1.data.toList a2.data.toList
  have hst := same_text a0 a1
  have hsw := cmp_swap a0.data.toList a1.data.toList
  generalize hx : Lib.compareBytes a0.data.toList a1.data.toList = x at *
  generalize hy : Lib.compareBytes a1.data.toList a2.data.toList = y at *
  generalize hz : Lib.compareBytes a0.data.toList a2.data.toList = z at *
  generalize hq : Lib.compareBytes a1.data.toList a0.data.toList = q at *
  have X := Lib.hid hx; have Y := Lib.hid hy; have Z := Lib.hid hz; have Q := Lib.hid hq
  clear hx hy hz hq
  obtain ⟨r11, r12⟩ := r1; obtain ⟨r21, r22⟩ := r2; obtain ⟨r31, r32⟩ := r3
  have cx : x = -1 ∨ x = 0 ∨ x = 1 := by omega
  have cy : y = -1 ∨ y = 0 ∨ y = 1 := by omega
  have cz : z = -1 ∨ z = 0 ∨ z = 1 := by omega
  clear r11 r12 r21 r22 r31 r32
  rcases cx with rfl | rfl | rfl <;> rcases cy with rfl | rfl | rfl <;> rcases cz with rfl | rfl | rfl <;> simp at hsw hon <;> (first | (change _ = false at hst) | (change _ = true at hst)) <;> subst hsw <;> first | (exfalso; exact hon) | skip
  all_goals
    go_enter Try.func4, Try.ntmps4
    go_wp2_with fail
    refine (impl_Compare _ _ _).mono ?_
    rintro e w' ⟨rfl, rfl⟩
    rw [X.out]
    go_wp2_with fail
    refine (impl_Compare _ _ _).mono ?_
    rintro e w' ⟨rfl, rfl⟩
    rw [Y.out]
    go_wp2_with fail
    refine (impl_Compare _ _ _).mono ?_
    rintro e w' ⟨rfl, rfl⟩
    rw [Z.out]
    go_wp2_with fail
    refine (impl_Compare _ _ _).mono ?_
    rintro e w' ⟨rfl, rfl⟩
    rw [Q.out]
    go_wp2_with fail
    go_ret
    exact ⟨rfl, Grown.refl _⟩

set_option maxRecDepth 100000 in
theorem lifted (os : Os) (started : os.Started) (H : Type) (enc : TypeId × Value → H) :
    ReturnsInHanded {} Try.checked os 4 .any (Rows.fnCompareOrderSpec.pre6 enc Try.prog Try.f4 Rows.fnCompareOrderRow.domain false) (Rows.fnCompareOrderSpec.post enc Try.prog Try.f4 false true false false) := by
  refine returnsInHanded_of_change_sized (C := Try.checked) own started (by kernel_rfl) Try.func4
    (ChangeSpec.witness6 (enc := enc) (C := Try.checked) false ⟨#[], #[.string ByteArray.empty, .string ByteArray.empty, .string ByteArray.empty], []⟩ 8 (by kernel_rfl) (by kernel_rfl) (by kernel_rfl) (by kernel_rfl)) ?_
  intro W base args ds gs before hval0 hW hcnd hsz0 _
  have hval : ∀ (j : Nat) t v, Try.f4.params[j]? = some t → args[j]? = some v → Value.okWide Try.prog W .any base t v := hval0
  have hsz : (DataW.weightsEach Try.prog (Try.f4.params.toList ++ Rows.fnCompareOrderSpec.plain.varTypes Try.prog) (ds ++ gs)).all (· ≤ reachBytes) = true := hsz0
  clear hsz0
  have hW' := hW
  obtain ⟨p, q, hA0, hV, rfl, hfz, hnd⟩ := hW
  have hA : DataW.TrodAll enc Try.prog W 0 (fun _ => true) true Try.f4.params.toList args.toList ds p := hA0
  rw [Try.params4] at hA hval hsz
  obtain ⟨v0, vs0, d0, ds0, p0, q0, hargs, rfl, rfl, h0, r0⟩ := trodAll_cons hA
  obtain ⟨v1, vs1, d1, ds1, p1, q1, rfl, rfl, rfl, h1, r1⟩ := trodAll_cons r0
  obtain ⟨v2, vs2, d2, ds2, p2, q2, rfl, rfl, rfl, h2, r2⟩ := trodAll_cons r1
  obtain ⟨rfl, rfl, rfl⟩ := trodAll_nil r2
  obtain rfl : args = #[v0, v1, v2] := by cases args; simp_all
  obtain ⟨rfl, rfl⟩ := trodVars_none hV
  obtain ⟨a0, rfl, rfl, rfl, w0⟩ := open_string Try.underlying9 (hval 0 9 v0 rfl rfl) h0
  obtain ⟨a1, rfl, rfl, rfl, w1⟩ := open_string Try.underlying9 (hval 1 9 v1 rfl rfl) h1
  obtain ⟨a2, rfl, rfl, rfl, w2⟩ := open_string Try.underlying9 (hval 2 9 v2 rfl rfl) h2
  clear hA0 hval0
  simp only [List.append_nil] at hW'
  have r0 : a0.size ≤ 140737488351232 := by have := sized_string hsz (j := 0) (t := 9) rfl rfl; simpa [reachBytes] using this
  have r1 : a1.size ≤ 140737488351232 := by have := sized_string hsz (j := 1) (t := 9) rfl rfl; simpa [reachBytes] using this
  have r2 : a2.size ≤ 140737488351232 := by have := sized_string hsz (j := 2) (t := 9) rfl rfl; simpa [reachBytes] using this
  refine (walk a0 a1 a2 r0 r1 r2 W).mono fun e W' ⟨he, hg⟩ => ?_
  subst he
  exact ⟨_, rfl, post_of_same (pa := []) (pv := []) hW' (fun _ _ _ => (trodAll_cons_mk (shut_bool Try.underlying4 _) trodAll_mk0)) (fun sp _ => (trodAll_cons_mk (shut_string Try.underlying9 w0) (trodAll_cons_mk (shut_string Try.underlying9 w1) (trodAll_cons_mk (shut_string Try.underlying9 w2) trodAll_mk0)))) (fun _ _ => rfl) rfl
    (hg.frame _) hg.2.1 (ok_one (by kernel_rfl) rfl (okWide_bool_mk Try.underlying4 _))⟩

theorem over : Rows.fnCompareOrderRow.holds Try.pinned (OpenSpec.ofChange Rows.fnCompareOrderSpec) :=
  OpenClaim.holds_of_wide 4 Try.f4 rfl rfl rfl rfl rfl rfl rfl ⟨rfl, rfl, rfl, rfl, rfl⟩ rfl rfl rfl rfl rfl (by kernel_rfl) Try.func4 (by kernel_rfl)
    (of_decide_eq_true (by kernel_rfl)) (by unfold Func.isWrapper; first | (rw [if_pos (by decide +kernel)]; kernel_rfl) | (rw [if_neg (by decide +kernel)]; exact ⟨rfl, rfl⟩))
    (fun os started H enc _ => lifted os started H enc)

theorem proved : Rows.FnCompareOrderSaid :=
  over
#print axioms proved
end Go.Proofs.Ytddlenodpjhmgaa.fnCompareOrder
