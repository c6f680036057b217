/-
  For every text and count the law FnRepeatJoin returns true and changes nothing: so many copies are as many joined with nothing between. No condition.
-/
import Derived.Test.YtapdpkojjkbccaaRows
import Derived.Test.YtapdpkojjkbccaaRep
import Derived.Test.YtapdpkojjkbccaaJoin
import Derived.WalkKit
import Derived.ProofKit
import Derived.OpenShut
import Derived.ShutString
import Derived.ChangeOld
import Derived.Below
import Derived.SizedLaws
import Derived.Lib.SmallJoins
import Derived.Deep.CondSized
namespace Go.Proofs.Ytapdpkojjkbccaa.fnRepeatJoin
open Go.ChangeShapes Go.WideShapes Go.ChangeAt Go.RowKit Go.Joins
open Go.ChangeMaps (open_string shut_string)
set_option linter.unusedVariables false

theorem own : ownKnob Try.prog.godebug = none := by kernel_rfl
theorem laidOut : laidOutB Try.prog = true := by kernel_rfl
theorem byte_nat {a : Int} (h : (Lit.int .u8 a).wf = true) : ∃ n : Nat, a = (n : Int) ∧ n ≤ 255 := by
  have := bounds_u8 h
  exact ⟨a.toNat, by omega, by omega⟩
theorem joinTail_rep (s : List UInt8) : ∀ n, Lib.joinTail [] (List.replicate n s) = Lib.repeatL s n
  | 0 => rfl
  | n + 1 => by
    have ih := joinTail_rep s n
    rw [List.replicate_succ]
    simp only [Lib.joinTail, Lib.repeatL] at ih ⊢
    simpa using ih
theorem join_rep (s : ByteArray) (n : Nat) : joinB (List.replicate n s) ⟨#[]⟩ = ⟨(Lib.repeatL s.data.toList n).toArray⟩ := by
  unfold joinB
  cases n with
  | zero => rfl
  | succ n =>
    rw [List.replicate_succ, List.map_cons, Lib.join_cons, List.map_replicate, joinTail_rep]
    rw [show n + 1 = 1 + n by omega, Lib.repeatL_add, Lib.repeatL_one]
set_option maxHeartbeats 1000000 in
theorem walk (a0 : ByteArray) (a1 : Int) (w : World) (w0 : a0.size ≤ 140737488351232) (w1 : (Lit.int .u8 a1).wf = true) :
    Calls Try.prog 8 #[.string a0, .int .u8 a1] w fun e w' => e = .returned (.bool true) ∧ Below w.heap.size w w' := by
  obtain ⟨i0, hi, hz0, hz1, hz2⟩ := info_parts Try.infoStr
  obtain ⟨n1, rfl, h1⟩ := byte_nat w1
  clear w1
  by_cases h : a0.size ≤ 32768
  · have m1 : a0.size * n1 ≤ 8355840 := Nat.le_trans (Nat.mul_le_mul h h1) (by decide)
    have C1 := Lib.hid (fun w => impl_Repeat a0 n1 w (by omega) (by omega))
    have HJ := Lib.hid (join_rep a0 n1)
    have hsz : (⟨(Lib.repeatL a0.data.toList n1).toArray⟩ : ByteArray).size ≤ 8355840 := by
      show (Lib.repeatL a0.data.toList n1).toArray.size ≤ _
      rw [List.size_toArray, Lib.repeatL_length, len_data, Nat.mul_comm]; exact m1
    generalize (⟨(Lib.repeatL a0.data.toList n1).toArray⟩ : ByteArray) = X at *
    clear m1
    go_enter Try.func8, Try.ntmps8
    go_wp2_with fail
    go_loopw [5, 6] (fun v vi wr => ∃ k : Nat, k ≤ n1 ∧ vi = .int .i64 (k : Int) ∧ Hid (wr.ownsRow w.heap.size 9 1 v k (strs (List.replicate k a0))) ∧ Hid (Below w.heap.size w wr)) (fun _ vi _ => n1 - (intOf vi).toNat)
    case atStart => exact ⟨0, Nat.zero_le _, rfl, ⟨rfl, .inl ⟨rfl, rfl⟩⟩, Below.refl _ _⟩
    case round =>
      obtain ⟨k, hk, rfl, HO, HB⟩ := hrel
      have hsw := HB.out.size
      by_cases hlt : k < n1
      · go_wp2_with (at_builtin; refine wpList_append_own _ rfl _ _ 22 rfl w.heap.size 9 i0 (.string ⟨#[]⟩) 1 16 Try.underlying22 hi hz0 hz1 hz2 rfl (by decide) u5 k (strs (List.replicate k a0)) rfl (HO.out.alloc _) ⟨wr.heap.size, 0, none⟩ 1 1 [.string a0] rfl rfl (cell_one_new _ _ _) (str_one _) (by unfold maxLen; omega) (by omega) (by simp; omega) ?_; intro v' w3 hown3 hgrow3 hnil3)
        have HO3 := Lib.hid (show w3.ownsRow w.heap.size 9 1 v' (k + 1) (strs (List.replicate (k + 1) a0)) by rw [List.replicate_succ']; simpa [strs] using hown3)
        have HB3 := Lib.hid ((HB.out.alloc hsw _).grown hgrow3 (by simp; omega) (fun q e => (HO.out.lt q e).1))
        clear hown3 hgrow3 hnil3
        go_wp2_with fail
        exact ⟨⟨k + 1, by omega, rfl, HO3.out, HB3.out⟩, by simp [intOf]; omega⟩
      · obtain rfl : k = n1 := by omega
        obtain ⟨av, cv, rfl⟩ := own_slice HO.out
        go_wp2_with fail
        refine (C1.out _).mono ?_; rintro e w1 ⟨rfl, hb1⟩
        have B1 := Lib.hid (HB.out.trans (hb1.mono HB.out.size))
        have HO1 := Lib.hid (own_later HO.out hb1)
        clear hb1
        have hj := impl_Join av cv (List.replicate k a0) ⟨#[]⟩ w1 (by rw [List.length_replicate]; exact Lies.of_own HO1.out) (by rw [List.length_replicate]; exact own_cap HO1.out) (by rw [List.length_replicate]; omega) (by rw [HJ.out]; omega)
        rw [List.length_replicate, HJ.out] at hj
        have CJ := Lib.hid hj
        clear hj
        go_wp2_with fail
        refine CJ.out.mono ?_; rintro e w2 ⟨rfl, hb2⟩
        have B2 := Lib.hid (B1.out.trans (hb2.mono B1.out.size)); clear hb2
        go_wp2_with fail
        go_ret
        exact ⟨rfl, B2.out⟩
  · go_enter Try.func8, Try.ntmps8
    go_wp2_with fail
    go_ret
    exact ⟨rfl, Below.refl _ _⟩

theorem contract (H : Type) (enc : TypeId × Value → H) (W : World) (base : Nat) (args : Array Value) (ds gs : List (DataW H)) (before : List MemPlace)
    (hval0 : ∀ (j : Nat) t v, Try.f8.params[j]? = some t → args[j]? = some v → Value.okWide Try.prog W .any base t v)
    (hW : DataW.Whole enc Try.prog Try.f8.params.toList Rows.fnRepeatJoinSpec.vars false W args.toList ds gs before)
    (hsz0 : (DataW.weightsEach Try.prog (Try.f8.params.toList ++ Rows.fnRepeatJoinSpec.plain.varTypes Try.prog) (ds ++ gs)).all (· ≤ reachBytes) = true) :
    Calls Try.prog 8 args W fun e W' => ∃ v, e = .returned v ∧ Rows.fnRepeatJoinSpec.post enc Try.prog Try.f8 false true false false W args v W' := by
  have hval := hval0
  have hsz := hsz0
  clear hval0 hsz0
  have hW' := hW
  obtain ⟨p, q, hA0, hV, rfl, hfz, hnd⟩ := hW
  have hA : DataW.TrodAll enc Try.prog W 0 (fun _ => true) true Try.f8.params.toList args.toList ds p := hA0
  rw [Try.params8] at hA hval hsz
  obtain ⟨v0, vs0, d0, ds0, p0, q0, hargs, rfl, rfl, h0, r0x⟩ := trodAll_cons hA
  obtain ⟨v1, vs1, d1, ds1, p1, q1, rfl, rfl, rfl, h1, r1x⟩ := trodAll_cons r0x
  obtain ⟨rfl, rfl, rfl⟩ := trodAll_nil r1x
  obtain rfl : args = #[v0, v1] := by cases args; simp_all
  obtain ⟨rfl, rfl⟩ := trodVars_none hV
  obtain ⟨a0, rfl, rfl, rfl, x0⟩ := open_string Try.underlying9 (hval 0 9 v0 rfl rfl) h0
  obtain ⟨a1, rfl, rfl, rfl, w1⟩ := open_int Try.underlying5 (hval 1 5 v1 rfl rfl) h1
  clear hA0
  have w0 : a0.size ≤ 140737488351232 := by have := sized_string hsz (j := 0) (t := 9) rfl rfl; simpa [reachBytes] using this
  refine (walk a0 a1 W w0 w1).mono fun e W' ⟨he, bel⟩ => ?_
  subst he
  exact ⟨_, rfl, _, _, _, [], _, [], hW', trodAll_mk1 (shut_bool Try.underlying4 _), (trodAll_cons_mk (shut_string Try.underlying9 x0) (trodAll_cons_mk (shut_int Try.underlying5 w1) trodAll_mk0)), rfl, bel.frame _, fun h => by cases h⟩

set_option maxRecDepth 100000 in
theorem lifted (os : Os) (started : os.Started) (H : Type) (enc : TypeId × Value → H) :
    ReturnsInHanded {} Try.checked os 8 .any (Rows.fnRepeatJoinSpec.pre6 enc Try.prog Try.f8 Rows.fnRepeatJoinRow.domain false) (Rows.fnRepeatJoinSpec.post enc Try.prog Try.f8 false true false false) := by
  refine returnsInHanded_of_change_sized (C := Try.checked) own started (by kernel_rfl) Try.func8
    (ChangeSpec.witness6 (enc := enc) (C := Try.checked) false ⟨#[], #[.string ByteArray.empty, .int .u8 0], []⟩ 8 (by kernel_rfl) (by kernel_rfl) (by kernel_rfl) (by kernel_rfl)) ?_
  intro W base args ds gs before hval0 hW hcnd hsz0 _
  exact contract H enc W base args ds gs before hval0 hW hsz0

theorem proved : Rows.FnRepeatJoinSaid :=
  OpenClaim.holds_of_wide 8 Try.f8 rfl rfl rfl rfl rfl rfl rfl ⟨rfl, rfl, rfl, rfl, rfl⟩ rfl rfl rfl rfl rfl (by kernel_rfl) Try.func8 (by kernel_rfl)
    (of_decide_eq_true (by kernel_rfl)) (by unfold Func.isWrapper; first | (rw [if_pos (by decide +kernel)]; kernel_rfl) | (rw [if_neg (by decide +kernel)]; exact ⟨rfl, rfl⟩))
    (fun os started H enc _ => lifted os started H enc)
#print axioms proved
end Go.Proofs.Ytapdpkojjkbccaa.fnRepeatJoin
