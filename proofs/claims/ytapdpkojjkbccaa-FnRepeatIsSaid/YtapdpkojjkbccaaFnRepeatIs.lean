/-
  For every text and count the law FnRepeatIs returns true and changes nothing: strings.Repeat answers as the reference does, and panics just for a count below 0 and for a length that is no number. No condition.
-/
import Derived.Test.YtapdpkojjkbccaaRows
import Derived.Test.YtapdpkojjkbccaaRep
import Derived.Test.YtapdpkojjkbccaaGlue
import Derived.WalkKit
import Derived.ProofKit
import Derived.OpenShut
import Derived.ShutString
import Derived.ChangeOld
import Derived.Below
import Derived.SizedLaws
import Derived.Lib.SmallJoins
import Derived.Deep.CondSized
namespace Go.Proofs.Ytapdpkojjkbccaa.fnRepeatIs
open Go.ChangeShapes Go.WideShapes Go.ChangeAt Go.RowKit Go.Joins
open Go.ChangeMaps (open_string shut_string)
set_option linter.unusedVariables false

theorem own : ownKnob Try.prog.godebug = none := by kernel_rfl
theorem laidOut : laidOutB Try.prog = true := by kernel_rfl
set_option maxHeartbeats 1000000 in
theorem walk (a0 : ByteArray) (a1 : Int) (w : World) (w0 : a0.size ≤ 140737488351232) (w1 : (Lit.int .i64 a1).wf = true) :
    Calls Try.prog 6 #[.string a0, .int .i64 a1] w fun e w' => e = .returned (.bool true) ∧ Below w.heap.size w w' := by
  have hbd := bounds_i64 w1
  clear w1
  by_cases hneg : a1 < 0
  · have HP := Lib.hid (fun w => Try.strings_Repeat_negative a0 a1 w hneg)
    go_enter Try.func6, Try.ntmps6
    go_wp2_with fail
    refine (impl_Repeat_no a0 a1 _ _ HP.out).mono ?_; rintro e w1 ⟨rfl, hb1⟩
    have B1 := Lib.hid hb1; clear hb1
    go_wp2_with fail
    go_ret
    exact ⟨rfl, B1.out⟩
  obtain ⟨n, rfl⟩ : ∃ n : Nat, a1 = (n : Int) := ⟨a1.toNat, by omega⟩
  by_cases hz : a0.size = 0
  · have he : a0.toList.isEmpty = true := by rw [Lib.toList_data]; rw [← len_data] at hz; rw [List.length_eq_zero_iff.1 hz]; rfl
    have hr : (⟨(Lib.repeatL a0.data.toList n).toArray⟩ : ByteArray) = ⟨#[]⟩ := by rw [← len_data] at hz; rw [List.length_eq_zero_iff.1 hz, Lib.repeatL_nil]
    have cI : ∀ (w : World) (z : Int), z = (n : Int) → Calls Try.prog 14 #[.string a0, .int .i64 z] w fun e w' => e = .returned (.tuple #[.string ⟨(Lib.repeatL a0.data.toList n).toArray⟩, .bool true]) ∧ Below w.heap.size w w' := fun w z e => by rw [e]; exact impl_Repeat a0 n w (by omega) (by rw [hz]; omega)
    rw [hr] at cI
    have CI := Lib.hid cI
    clear cI hr
    by_cases h0 : n = 0
    all_goals
     go_enter Try.func6, Try.ntmps6
     go_wp2_with fail
     refine (CI.out _ _ (by omega)).mono ?_; rintro e w1 ⟨rfl, hb1⟩
     have B1 := Lib.hid hb1; clear hb1
     go_wp2_with fail
     go_ret
     exact ⟨rfl, B1.out⟩
  obtain ⟨q, hq⟩ : ∃ q, 9223372036854775807 / a0.size = q := ⟨_, rfl⟩
  obtain ⟨m, hm⟩ : ∃ m, 16777216 / a0.size = m := ⟨_, rfl⟩
  have hqi : (9223372036854775807 : Int) / (a0.size : Int) = (q : Int) := by rw [← hq]; simp
  have hmi : (16777216 : Int) / (a0.size : Int) = (m : Int) := by rw [← hm]; simp
  have he : a0.toList.isEmpty = false := by
    rw [Lib.toList_data]; rw [← len_data] at hz; cases h : a0.data.toList
    · rw [h] at hz; simp at hz
    · rfl
  have hpos : 0 < a0.size := by omega
  by_cases hbig : q < n
  · have hov : 9223372036854775807 < a0.size * n := by rw [← hq, Nat.div_lt_iff_lt_mul hpos, Nat.mul_comm] at hbig; exact hbig
    have HP := Lib.hid (fun w => Try.strings_Repeat_overflow a0 n w (by omega) (by omega) hov)
    have hn0 : 0 < n := by omega
    clear hov hq hm
    go_enter Try.func6, Try.ntmps6
    go_wp2_with fail
    refine (impl_Repeat_no a0 n _ _ HP.out).mono ?_; rintro e w1 ⟨rfl, hb1⟩
    have B1 := Lib.hid hb1; clear hb1
    go_wp2_with fail
    go_ret
    exact ⟨rfl, B1.out⟩
  by_cases hmb : m < n
  · have hn0 : 0 < n := by omega
    clear hq hm
    go_enter Try.func6, Try.ntmps6
    go_wp2_with fail
    go_ret
    exact ⟨rfl, Below.refl _ _⟩
  have hsm : a0.size * n ≤ 16777216 := by
    have : n ≤ 16777216 / a0.size := by omega
    rw [Nat.le_div_iff_mul_le hpos, Nat.mul_comm] at this; exact this
  have hn : n ≤ 16777216 := by
    have : n ≤ a0.size * n := Nat.le_mul_of_pos_left _ hpos
    omega
  have CI := Lib.hid (show ∀ (w : World) (z : Int), z = (n : Int) → Calls Try.prog 14 #[.string a0, .int .i64 z] w fun e w' => e = .returned (.tuple #[.string ⟨(Lib.repeatL a0.data.toList n).toArray⟩, .bool true]) ∧ Below w.heap.size w w' from fun w z e => by rw [e]; exact impl_Repeat a0 n w (by omega) (by omega))
  have CS := Lib.hid (show ∀ (w : World) (z : Int), z = (n : Int) → Calls Try.prog 15 #[.string a0, .int .i64 z] w fun e w' => e = .returned (.string ⟨(Lib.repeatL a0.data.toList n).toArray⟩) ∧ Below w.heap.size w w' from fun w z e => by rw [e]; exact spec_Repeat a0 n w (by omega) (by omega))
  clear hq hm hsm
  generalize (⟨(Lib.repeatL a0.data.toList n).toArray⟩ : ByteArray) = X at *
  by_cases h0 : n = 0
  all_goals
   go_enter Try.func6, Try.ntmps6
   go_wp2_with fail
   refine (CI.out _ _ (by omega)).mono ?_; rintro e w1 ⟨rfl, hb1⟩
   have B1 := Lib.hid hb1; clear hb1
   go_wp2_with fail
   refine (CS.out _ _ (by omega)).mono ?_; rintro e w2 ⟨rfl, hb2⟩
   have B2 := Lib.hid (B1.out.trans (hb2.mono B1.out.size)); clear hb2
   go_wp2_with fail
   go_ret
   exact ⟨rfl, B2.out⟩

theorem contract (H : Type) (enc : TypeId × Value → H) (W : World) (base : Nat) (args : Array Value) (ds gs : List (DataW H)) (before : List MemPlace)
    (hval0 : ∀ (j : Nat) t v, Try.f6.params[j]? = some t → args[j]? = some v → Value.okWide Try.prog W .any base t v)
    (hW : DataW.Whole enc Try.prog Try.f6.params.toList Rows.fnRepeatIsSpec.vars false W args.toList ds gs before)
    (hsz0 : (DataW.weightsEach Try.prog (Try.f6.params.toList ++ Rows.fnRepeatIsSpec.plain.varTypes Try.prog) (ds ++ gs)).all (· ≤ reachBytes) = true) :
    Calls Try.prog 6 args W fun e W' => ∃ v, e = .returned v ∧ Rows.fnRepeatIsSpec.post enc Try.prog Try.f6 false true false false W args v W' := by
  have hval := hval0
  have hsz := hsz0
  clear hval0 hsz0
  have hW' := hW
  obtain ⟨p, q, hA0, hV, rfl, hfz, hnd⟩ := hW
  have hA : DataW.TrodAll enc Try.prog W 0 (fun _ => true) true Try.f6.params.toList args.toList ds p := hA0
  rw [Try.params6] at hA hval hsz
  obtain ⟨v0, vs0, d0, ds0, p0, q0, hargs, rfl, rfl, h0, r0x⟩ := trodAll_cons hA
  obtain ⟨v1, vs1, d1, ds1, p1, q1, rfl, rfl, rfl, h1, r1x⟩ := trodAll_cons r0x
  obtain ⟨rfl, rfl, rfl⟩ := trodAll_nil r1x
  obtain rfl : args = #[v0, v1] := by cases args; simp_all
  obtain ⟨rfl, rfl⟩ := trodVars_none hV
  obtain ⟨a0, rfl, rfl, rfl, x0⟩ := open_string Try.underlying9 (hval 0 9 v0 rfl rfl) h0
  obtain ⟨a1, rfl, rfl, rfl, w1⟩ := open_int Try.underlying3 (hval 1 3 v1 rfl rfl) h1
  clear hA0
  have w0 : a0.size ≤ 140737488351232 := by have := sized_string hsz (j := 0) (t := 9) rfl rfl; simpa [reachBytes] using this
  refine (walk a0 a1 W w0 w1).mono fun e W' ⟨he, bel⟩ => ?_
  subst he
  exact ⟨_, rfl, _, _, _, [], _, [], hW', trodAll_mk1 (shut_bool Try.underlying4 _), (trodAll_cons_mk (shut_string Try.underlying9 x0) (trodAll_cons_mk (shut_int Try.underlying3 w1) trodAll_mk0)), rfl, bel.frame _, fun h => by cases h⟩

set_option maxRecDepth 100000 in
theorem lifted (os : Os) (started : os.Started) (H : Type) (enc : TypeId × Value → H) :
    ReturnsInHanded {} Try.checked os 6 .any (Rows.fnRepeatIsSpec.pre6 enc Try.prog Try.f6 Rows.fnRepeatIsRow.domain false) (Rows.fnRepeatIsSpec.post enc Try.prog Try.f6 false true false false) := by
  refine returnsInHanded_of_change_sized (C := Try.checked) own started (by kernel_rfl) Try.func6
    (ChangeSpec.witness6 (enc := enc) (C := Try.checked) false ⟨#[], #[.string ByteArray.empty, .int .i64 0], []⟩ 8 (by kernel_rfl) (by kernel_rfl) (by kernel_rfl) (by kernel_rfl)) ?_
  intro W base args ds gs before hval0 hW hcnd hsz0 _
  exact contract H enc W base args ds gs before hval0 hW hsz0

theorem proved : Rows.FnRepeatIsSaid :=
  OpenClaim.holds_of_wide 6 Try.f6 rfl rfl rfl rfl rfl rfl rfl ⟨rfl, rfl, rfl, rfl, rfl⟩ rfl rfl rfl rfl rfl (by kernel_rfl) Try.func6 (by kernel_rfl)
    (of_decide_eq_true (by kernel_rfl)) (by unfold Func.isWrapper; first | (rw [if_pos (by decide +kernel)]; kernel_rfl) | (rw [if_neg (by decide +kernel)]; exact ⟨rfl, rfl⟩))
    (fun os started H enc _ => lifted os started H enc)
#print axioms proved
end Go.Proofs.Ytapdpkojjkbccaa.fnRepeatIs
