/-
  For all two texts the law FnLastIndexLast returns true and changes nothing. No condition.
-/
import Derived.Test.YtmfjmikiebijgaaRows
import Derived.Test.YtmfjmikiebijgaaSpecB
import Derived.Test.YtmfjmikiebijgaaPlainB
import Derived.WalkKit
import Derived.ProofKit
import Derived.OpenShut
import Derived.ShutString
import Derived.SizedLaws
namespace Go.Proofs.Ytmfjmikiebijgaa.fnLastIndexLast
open Go.ChangeShapes Go.WideShapes Go.ChangeAt Go.RowKit
open Go.ChangeMaps (open_string shut_string)
set_option linter.unusedVariables false      -- a walk need not use every 'w<i>' (that an integer argument fits its kind)

theorem own : ownKnob Try.prog.godebug = none := by kernel_rfl

theorem piece_of {s t : ByteArray} {i : Nat} (hi : i + t.size ≤ s.size) (h : Lib.occAt s.data.toList t.data.toList i = true) : s.extract i (i + t.size) = t := by
  apply ba_ext
  rw [Lib.extract_data, show i + t.size - i = t.size by omega]
  have := Lib.occAt_iff_take s.data.toList t.data.toList i (by rw [len_data, len_data]; exact hi)
  rw [h, len_data] at this
  exact (beq_iff_eq.1 this.symm)
set_option maxHeartbeats 1000000 in
theorem walk (a0 : ByteArray) (a1 : ByteArray) (w0 : a0.size ≤ 140737488351232) (w1 : a1.size ≤ 140737488351232) (w : World) :
    Calls Try.prog 9 #[.string a0, .string a1] w fun e w' => e = .returned (.bool true) ∧ Grown w w' := by
  rcases last_spec a0.data.toList a1.data.toList with ⟨e, hn⟩ | ⟨i, hi, e, hc, hn⟩
  · have HN := Lib.hid (none_index _ _ hn)
    have E := Lib.hid e
    clear e hn
    go_enter Try.func9, Try.ntmps9
    go_wp2_with fail
    refine (impl_LastIndex _ _ (by omega) _).mono ?_; rintro e w' ⟨rfl, rfl⟩; rw [E.out]
    go_wp2_with fail
    refine (spec_Contains _ _ (by omega) (by omega) _).mono ?_; rintro e w' ⟨rfl, rfl⟩; rw [HN.out]
    go_wp2_with fail
    go_ret
    exact ⟨rfl, Grown.refl _⟩
  · rw [len_data, len_data] at hi
    have hx := piece_of hi hc
    have E := Lib.hid e
    by_cases h1 : i = a0.size
    · have h2 : a1.toList.isEmpty = true := by
        have : a1.size = 0 := by omega
        rw [Lib.toList_data]; rw [← len_data] at this; rw [List.length_eq_zero_iff.1 this]; rfl
      have hq : ((a0.extract i (i + a1.size)).toList == a1.toList) = true := by rw [hx]; simp
      clear hx e hn hc
      have h3 : ((i : Int) == a0.size) = true := by simp [h1]
      clear h1
      go_enter Try.func9, Try.ntmps9
      go_wp2_with fail
      refine (impl_LastIndex _ _ (by omega) _).mono ?_; rintro e w' ⟨rfl, rfl⟩; rw [E.out]
      go_wp2_with fail
      go_ret
      exact ⟨rfl, Grown.refl _⟩
    · have h2 : a1.toList.isEmpty = false := by
        cases hh : a1.toList.isEmpty
        · rfl
        · exfalso
          rw [Lib.toList_data] at hh
          have h0 : a1.data.toList = [] := by simpa using hh
          have := hn (i + 1) (by omega) (by rw [len_data]; omega)
          unfold Lib.occAt at this; rw [h0] at this; simp [List.isPrefixOf] at this
      have hq : ((a0.extract i (i + a1.size)).toList == a1.toList) = true := by rw [hx]; simp
      have hz : Lib.lastIndex (a0.extract (i + 1) a0.size).data.toList a1.data.toList = -1 := by
        apply last_none
        intro j hj
        rw [Lib.extract_data, List.take_of_length_le (by simp)] at hj ⊢
        rw [occ_drop]
        simp only [List.length_drop, len_data] at hj
        exact hn _ (by omega) (by rw [len_data]; omega)
      have HZ := Lib.hid hz
      clear hx e hn hc hz
      have h3 : ((i : Int) == a0.size) = false := by simp; omega
      have h4 : i < a0.size := by omega
      clear h1
      go_enter Try.func9, Try.ntmps9
      go_wp2_with fail
      refine (impl_LastIndex _ _ (by omega) _).mono ?_; rintro e w' ⟨rfl, rfl⟩; rw [E.out]
      go_wp2_with fail
      refine (impl_LastIndex _ _ (by simp; omega) _).mono ?_; rintro e w' ⟨rfl, rfl⟩; rw [HZ.out]
      go_wp2_with fail
      go_ret
      exact ⟨rfl, Grown.refl _⟩

set_option maxRecDepth 100000 in
theorem lifted (os : Os) (started : os.Started) (H : Type) (enc : TypeId × Value → H) :
    ReturnsInHanded {} Try.checked os 9 .any (Rows.fnLastIndexLastSpec.pre6 enc Try.prog Try.f9 Rows.fnLastIndexLastRow.domain false) (Rows.fnLastIndexLastSpec.post enc Try.prog Try.f9 false true false false) := by
  refine returnsInHanded_of_change_sized (C := Try.checked) own started (by kernel_rfl) Try.func9
    (ChangeSpec.witness6 (enc := enc) (C := Try.checked) false ⟨#[], #[.string ByteArray.empty, .string ByteArray.empty], []⟩ 8 (by kernel_rfl) (by kernel_rfl) (by kernel_rfl) (by kernel_rfl)) ?_
  intro W base args ds gs before hval0 hW hcnd hsz0 _
  have hval : ∀ (j : Nat) t v, Try.f9.params[j]? = some t → args[j]? = some v → Value.okWide Try.prog W .any base t v := hval0
  have hsz : (DataW.weightsEach Try.prog (Try.f9.params.toList ++ Rows.fnLastIndexLastSpec.plain.varTypes Try.prog) (ds ++ gs)).all (· ≤ reachBytes) = true := hsz0
  clear hsz0
  have hW' := hW
  obtain ⟨p, q, hA0, hV, rfl, hfz, hnd⟩ := hW
  have hA : DataW.TrodAll enc Try.prog W 0 (fun _ => true) true Try.f9.params.toList args.toList ds p := hA0
  rw [Try.params9] at hA hval hsz
  obtain ⟨v0, vs0, d0, ds0, p0, q0, hargs, rfl, rfl, h0, r0⟩ := trodAll_cons hA
  obtain ⟨v1, vs1, d1, ds1, p1, q1, rfl, rfl, rfl, h1, r1⟩ := trodAll_cons r0
  obtain ⟨rfl, rfl, rfl⟩ := trodAll_nil r1
  obtain rfl : args = #[v0, v1] := by cases args; simp_all
  obtain ⟨rfl, rfl⟩ := trodVars_none hV
  obtain ⟨a0, rfl, rfl, rfl, w0⟩ := open_string Try.underlying9 (hval 0 9 v0 rfl rfl) h0
  obtain ⟨a1, rfl, rfl, rfl, w1⟩ := open_string Try.underlying9 (hval 1 9 v1 rfl rfl) h1
  clear hA0 hval0
  simp only [List.append_nil] at hW'
  have r0 : a0.size ≤ 140737488351232 := by have := sized_string hsz (j := 0) (t := 9) rfl rfl; simpa [reachBytes] using this
  have r1 : a1.size ≤ 140737488351232 := by have := sized_string hsz (j := 1) (t := 9) rfl rfl; simpa [reachBytes] using this
  refine (walk a0 a1 r0 r1 W).mono fun e W' ⟨he, hg⟩ => ?_
  subst he
  exact ⟨_, rfl, post_of_same (pa := []) (pv := []) hW' (fun _ _ _ => (trodAll_cons_mk (shut_bool Try.underlying4 _) trodAll_mk0)) (fun sp _ => (trodAll_cons_mk (shut_string Try.underlying9 w0) (trodAll_cons_mk (shut_string Try.underlying9 w1) trodAll_mk0))) (fun _ _ => rfl) rfl
    (hg.frame _) hg.2.1 (ok_one (by kernel_rfl) rfl (okWide_bool_mk Try.underlying4 _))⟩

theorem over : Rows.fnLastIndexLastRow.holds Try.pinned (OpenSpec.ofChange Rows.fnLastIndexLastSpec) :=
  OpenClaim.holds_of_wide 9 Try.f9 rfl rfl rfl rfl rfl rfl rfl ⟨rfl, rfl, rfl, rfl, rfl⟩ rfl rfl rfl rfl rfl (by kernel_rfl) Try.func9 (by kernel_rfl)
    (of_decide_eq_true (by kernel_rfl)) (by unfold Func.isWrapper; first | (rw [if_pos (by decide +kernel)]; kernel_rfl) | (rw [if_neg (by decide +kernel)]; exact ⟨rfl, rfl⟩))
    (fun os started H enc _ => lifted os started H enc)

theorem proved : Rows.FnLastIndexLastSaid :=
  over
#print axioms proved
end Go.Proofs.Ytmfjmikiebijgaa.fnLastIndexLast
