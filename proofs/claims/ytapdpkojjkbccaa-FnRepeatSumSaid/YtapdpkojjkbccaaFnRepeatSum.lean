/-
  For every text and two counts the law FnRepeatSum returns true and changes nothing: so many copies and so many more are as many together. No condition.
-/
import Derived.Test.YtapdpkojjkbccaaRows
import Derived.Test.YtapdpkojjkbccaaRep
import Derived.WalkKit
import Derived.ProofKit
import Derived.OpenShut
import Derived.ShutString
import Derived.ChangeOld
import Derived.Below
import Derived.SizedLaws
import Derived.Lib.SmallJoins
import Derived.Deep.CondSized
namespace Go.Proofs.Ytapdpkojjkbccaa.fnRepeatSum
open Go.ChangeShapes Go.WideShapes Go.ChangeAt Go.RowKit Go.Joins
open Go.ChangeMaps (open_string shut_string)
set_option linter.unusedVariables false

theorem own : ownKnob Try.prog.godebug = none := by kernel_rfl
theorem laidOut : laidOutB Try.prog = true := by kernel_rfl
theorem byte_nat {a : Int} (h : (Lit.int .u8 a).wf = true) : ∃ n : Nat, a = (n : Int) ∧ n ≤ 255 := by
  have := bounds_u8 h
  exact ⟨a.toNat, by omega, by omega⟩
theorem rep_size (s : ByteArray) (n : Nat) : (⟨(Lib.repeatL s.data.toList n).toArray⟩ : ByteArray).size = s.size * n := by
  show (Lib.repeatL s.data.toList n).toArray.size = _
  rw [List.size_toArray, Lib.repeatL_length, len_data, Nat.mul_comm]
theorem rep_add (s : ByteArray) (a b : Nat) : (⟨(Lib.repeatL s.data.toList (a + b)).toArray⟩ : ByteArray) = ⟨(Lib.repeatL s.data.toList a).toArray⟩ ++ ⟨(Lib.repeatL s.data.toList b).toArray⟩ := by
  apply ByteArray.ext
  rw [ByteArray.data_append, Lib.repeatL_add]
  simp
set_option maxHeartbeats 1000000 in
theorem walk (a0 : ByteArray) (a1 : Int) (a2 : Int) (w : World) (w0 : a0.size ≤ 140737488351232) (w1 : (Lit.int .u8 a1).wf = true) (w2 : (Lit.int .u8 a2).wf = true) :
    Calls Try.prog 7 #[.string a0, .int .u8 a1, .int .u8 a2] w fun e w' => e = .returned (.bool true) ∧ Below w.heap.size w w' := by
  obtain ⟨n1, rfl, h1⟩ := byte_nat w1
  obtain ⟨n2, rfl, h2⟩ := byte_nat w2
  clear w1 w2
  by_cases h : a0.size ≤ 32768
  · have m1 : a0.size * n1 ≤ 140737488355328 := Nat.le_trans (Nat.mul_le_mul h h1) (by decide)
    have m2 : a0.size * n2 ≤ 140737488355328 := Nat.le_trans (Nat.mul_le_mul h h2) (by decide)
    have m3 : a0.size * (n1 + n2) ≤ 140737488355328 := Nat.le_trans (Nat.mul_le_mul h (show n1 + n2 ≤ 510 by omega)) (by decide)
    have c1 := fun w => impl_Repeat a0 n1 w (by omega) m1
    have c2 := fun w => impl_Repeat a0 n2 w (by omega) m2
    have c3 := fun w => impl_Repeat a0 (n1 + n2) w (by omega) m3
    rw [show ((n1 + n2 : Nat) : Int) = (n1 : Int) + (n2 : Int) by omega] at c3
    have x1 := rep_size a0 n1
    have x2 := rep_size a0 n2
    have x3 := rep_add a0 n1 n2
    have s1 : a0.size * n1 ≤ 8355840 := Nat.le_trans (Nat.mul_le_mul h h1) (by decide)
    have s2 : a0.size * n2 ≤ 8355840 := Nat.le_trans (Nat.mul_le_mul h h2) (by decide)
    generalize (⟨(Lib.repeatL a0.data.toList n1).toArray⟩ : ByteArray) = X at *
    generalize (⟨(Lib.repeatL a0.data.toList n2).toArray⟩ : ByteArray) = Y at *
    generalize (⟨(Lib.repeatL a0.data.toList (n1 + n2)).toArray⟩ : ByteArray) = Z at *
    subst x3
    have hX : X.size ≤ 8355840 := by omega
    have hY : Y.size ≤ 8355840 := by omega
    have hmul : (a0.size : Int) * (n1 : Int) = (X.size : Int) := by rw [x1]; simp
    have C1 := Lib.hid c1; have C2 := Lib.hid c2; have C3 := Lib.hid c3
    clear c1 c2 c3 m1 m2 m3 x1 x2 s1 s2
    go_enter Try.func7, Try.ntmps7
    go_wp2_with fail
    refine (C1.out _).mono ?_; rintro e w1 ⟨rfl, hb1⟩
    have B1 := Lib.hid hb1; clear hb1
    go_wp2_with fail
    refine (C2.out _).mono ?_; rintro e w2 ⟨rfl, hb2⟩
    have B2 := Lib.hid (B1.out.trans (hb2.mono B1.out.size)); clear hb2
    go_wp2_with fail
    refine (C3.out _).mono ?_; rintro e w3 ⟨rfl, hb3⟩
    have B3 := Lib.hid (B2.out.trans (hb3.mono B2.out.size)); clear hb3
    go_wp2_with fail
    go_ret
    exact ⟨rfl, B3.out⟩
  · go_enter Try.func7, Try.ntmps7
    go_wp2_with fail
    go_ret
    exact ⟨rfl, Below.refl _ _⟩

theorem contract (H : Type) (enc : TypeId × Value → H) (W : World) (base : Nat) (args : Array Value) (ds gs : List (DataW H)) (before : List MemPlace)
    (hval0 : ∀ (j : Nat) t v, Try.f7.params[j]? = some t → args[j]? = some v → Value.okWide Try.prog W .any base t v)
    (hW : DataW.Whole enc Try.prog Try.f7.params.toList Rows.fnRepeatSumSpec.vars false W args.toList ds gs before)
    (hsz0 : (DataW.weightsEach Try.prog (Try.f7.params.toList ++ Rows.fnRepeatSumSpec.plain.varTypes Try.prog) (ds ++ gs)).all (· ≤ reachBytes) = true) :
    Calls Try.prog 7 args W fun e W' => ∃ v, e = .returned v ∧ Rows.fnRepeatSumSpec.post enc Try.prog Try.f7 false true false false W args v W' := by
  have hval := hval0
  have hsz := hsz0
  clear hval0 hsz0
  have hW' := hW
  obtain ⟨p, q, hA0, hV, rfl, hfz, hnd⟩ := hW
  have hA : DataW.TrodAll enc Try.prog W 0 (fun _ => true) true Try.f7.params.toList args.toList ds p := hA0
  rw [Try.params7] at hA hval hsz
  obtain ⟨v0, vs0, d0, ds0, p0, q0, hargs, rfl, rfl, h0, r0x⟩ := trodAll_cons hA
  obtain ⟨v1, vs1, d1, ds1, p1, q1, rfl, rfl, rfl, h1, r1x⟩ := trodAll_cons r0x
  obtain ⟨v2, vs2, d2, ds2, p2, q2, rfl, rfl, rfl, h2, r2x⟩ := trodAll_cons r1x
  obtain ⟨rfl, rfl, rfl⟩ := trodAll_nil r2x
  obtain rfl : args = #[v0, v1, v2] := by cases args; simp_all
  obtain ⟨rfl, rfl⟩ := trodVars_none hV
  obtain ⟨a0, rfl, rfl, rfl, x0⟩ := open_string Try.underlying9 (hval 0 9 v0 rfl rfl) h0
  obtain ⟨a1, rfl, rfl, rfl, w1⟩ := open_int Try.underlying5 (hval 1 5 v1 rfl rfl) h1
  obtain ⟨a2, rfl, rfl, rfl, w2⟩ := open_int Try.underlying5 (hval 2 5 v2 rfl rfl) h2
  clear hA0
  have w0 : a0.size ≤ 140737488351232 := by have := sized_string hsz (j := 0) (t := 9) rfl rfl; simpa [reachBytes] using this
  refine (walk a0 a1 a2 W w0 w1 w2).mono fun e W' ⟨he, bel⟩ => ?_
  subst he
  exact ⟨_, rfl, _, _, _, [], _, [], hW', trodAll_mk1 (shut_bool Try.underlying4 _), (trodAll_cons_mk (shut_string Try.underlying9 x0) (trodAll_cons_mk (shut_int Try.underlying5 w1) (trodAll_cons_mk (shut_int Try.underlying5 w2) trodAll_mk0))), rfl, bel.frame _, fun h => by cases h⟩

set_option maxRecDepth 100000 in
theorem lifted (os : Os) (started : os.Started) (H : Type) (enc : TypeId × Value → H) :
    ReturnsInHanded {} Try.checked os 7 .any (Rows.fnRepeatSumSpec.pre6 enc Try.prog Try.f7 Rows.fnRepeatSumRow.domain false) (Rows.fnRepeatSumSpec.post enc Try.prog Try.f7 false true false false) := by
  refine returnsInHanded_of_change_sized (C := Try.checked) own started (by kernel_rfl) Try.func7
    (ChangeSpec.witness6 (enc := enc) (C := Try.checked) false ⟨#[], #[.string ByteArray.empty, .int .u8 0, .int .u8 0], []⟩ 8 (by kernel_rfl) (by kernel_rfl) (by kernel_rfl) (by kernel_rfl)) ?_
  intro W base args ds gs before hval0 hW hcnd hsz0 _
  exact contract H enc W base args ds gs before hval0 hW hsz0

theorem proved : Rows.FnRepeatSumSaid :=
  OpenClaim.holds_of_wide 7 Try.f7 rfl rfl rfl rfl rfl rfl rfl ⟨rfl, rfl, rfl, rfl, rfl⟩ rfl rfl rfl rfl rfl (by kernel_rfl) Try.func7 (by kernel_rfl)
    (of_decide_eq_true (by kernel_rfl)) (by unfold Func.isWrapper; first | (rw [if_pos (by decide +kernel)]; kernel_rfl) | (rw [if_neg (by decide +kernel)]; exact ⟨rfl, rfl⟩))
    (fun os started H enc _ => lifted os started H enc)
#print axioms proved
end Go.Proofs.Ytapdpkojjkbccaa.fnRepeatSum
