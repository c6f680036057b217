/-
  For every list of texts and text between the law FnJoinIs returns true and changes nothing: strings.Join answers as the reference does. No condition.
-/
import Derived.Test.YtapdpkojjkbccaaRows
import Derived.Test.YtapdpkojjkbccaaJoin
import Derived.WalkKit
import Derived.ProofKit
import Derived.OpenShut
import Derived.ShutString
import Derived.ChangeOld
import Derived.Below
import Derived.SizedLaws
import Derived.Lib.SmallJoins
import Derived.Deep.CondSized
namespace Go.Proofs.Ytapdpkojjkbccaa.fnJoinIs
open Go.ChangeShapes Go.WideShapes Go.ChangeAt Go.RowKit Go.Joins
open Go.ChangeMaps (open_string shut_string)
set_option linter.unusedVariables false

theorem own : ownKnob Try.prog.godebug = none := by kernel_rfl
theorem laidOut : laidOutB Try.prog = true := by kernel_rfl
set_option maxHeartbeats 1000000 in
theorem walk (a0 : Option Addr) (len0 cap0 : Nat) (z0 : List ByteArray) (a1 : ByteArray) (w : World) (w0 : IsTexts w a0 len0 cap0 z0) (w1 : a1.size ≤ 140737488351232) :
    Calls Try.prog 3 #[.slice a0 len0 cap0, .string a1] w fun e w' => e = .returned (.bool true) ∧ Below w.heap.size w w' := by
  obtain ⟨i0, hi, hz0, hz1, hz2⟩ := info_parts Try.infoStr
  have hl := w0.lies
  have hle := w0.le
  have hwf := w0.wf
  have hcp := w0.cap
  have hn0 : a0 = none → len0 = 0 := fun h => by rcases w0 with ⟨_, h, _⟩ | ⟨x, h', _⟩; exact h; rw [h] at h'; cases h'
  unfold maxLen at hcp hwf
  generalize hzz : z0.take len0 = L at *
  obtain rfl : L.length = len0 := by have := hl.1; simpa [strs] using this
  have hws : ∀ s ∈ L, s.size ≤ 9223372036854775807 := fun s h => hwf s (by rw [← hzz] at h; exact List.mem_of_mem_take h)
  have CF := Lib.hid (laws_few a0 cap0 L a1 w hl (by omega) hws (by omega))
  have HL := Lib.hid hl
  have HN := Lib.hid hn0
  have hlc : L.length ≤ cap0 := hle.1
  clear hl hwf hws hzz w0 hn0 hcp hle
  go_enter Try.func3, Try.ntmps3
  go_wp2_with fail
  refine CF.out.mono ?_; rintro e w1 ⟨b, rfl, hb, hd⟩
  have B1 := Lib.hid (hd.below w.heap.size)
  have hsz1 := B1.out.size
  clear hd
  cases b with
  | false =>
    clear hb
    go_wp2_with fail
    go_ret
    exact ⟨rfl, B1.out⟩
  | true =>
    have hF := hb rfl
    have hlen := hF.len
    have hjs := few_join hF
    have hLi : L.length ≤ 1099511627776 := by omega
    have HJS := Lib.hid hjs
    clear hb hF hlen hjs
    have HL1 := Lib.hid (HL.out.later B1.out)
    have HJK := Lib.hid (joinK_all L a1)
    have HJZ := Lib.hid (joinK_size L a1)
    rcases a0 with _ | x
    · have h0 : L.length = 0 := HN.out rfl
      obtain rfl : L = [] := List.length_eq_zero_iff.1 h0
      have HE := Lib.hid (show Lies w1 w1.heap.size 1 none ([] : List ByteArray).length (strs []) from Lies.empty)
      clear h0
      go_wp2_with fail
      refine (impl_Join none 0 [] a1 _ HE.out (by simp) hLi (Nat.le_trans HJS.out (by decide))).mono ?_; rintro e w3 ⟨rfl, hb3⟩
      have B3 := Lib.hid (B1.out.trans (hb3.mono B1.out.size)); clear hb3
      go_wp2_with fail
      refine (spec_Join none cap0 [] a1 _ (HL.out.later B3.out) hLi (by rw [HJZ.out]; exact Nat.le_trans HJS.out (by decide))).mono ?_; rintro e w4 ⟨rfl, hb4⟩; rw [HJK.out]
      have B4 := Lib.hid (B3.out.trans (hb4.mono B3.out.size)); clear hb4
      go_wp2_with fail
      go_ret
      exact ⟨rfl, B4.out⟩
    · have HLn := Lib.hid HL1.out.news
      go_wp2_with (at_builtin; refine wpList_append_own _ rfl _ _ 22 rfl w1.heap.size 9 i0 (.string ⟨#[]⟩) 1 16 Try.underlying22 hi hz0 hz1 hz2 rfl (by decide) (.slice none 0 0) 0 [] rfl (World.ownsRow_nil _ _ _ _) x L.length cap0 (strs L) rfl (by simp [strs]) HLn.out (strs_one L) (by unfold maxLen; omega) (by omega) (Nat.le_refl _) ?_; intro v' w2 hown2 hgrow2 hnil; clear hnil; rw [Nat.zero_add, List.nil_append] at hown2; obtain ⟨a', cap', rfl⟩ := own_slice hown2; have HO2 := Lib.hid hown2; have hb2 : Below w1.heap.size w1 w2 := grown_below hgrow2 (Nat.le_refl _) (fun k h => by cases h); have B2 := Lib.hid (B1.out.trans (hb2.mono B1.out.size)); clear hown2 hgrow2 hb2)
      refine (impl_Join a' cap' L a1 _ (Lies.of_own HO2.out) (own_cap HO2.out) hLi (Nat.le_trans HJS.out (by decide))).mono ?_; rintro e w3 ⟨rfl, hb3⟩
      have B3 := Lib.hid (B2.out.trans (hb3.mono B2.out.size)); clear hb3
      go_wp2_with fail
      refine (spec_Join (some x) cap0 L a1 _ (HL.out.later B3.out) hLi (by rw [HJZ.out]; exact Nat.le_trans HJS.out (by decide))).mono ?_; rintro e w4 ⟨rfl, hb4⟩; rw [HJK.out]
      have B4 := Lib.hid (B3.out.trans (hb4.mono B3.out.size)); clear hb4
      go_wp2_with fail
      go_ret
      exact ⟨rfl, B4.out⟩

theorem contract (H : Type) (enc : TypeId × Value → H) (W : World) (base : Nat) (args : Array Value) (ds gs : List (DataW H)) (before : List MemPlace)
    (hval0 : ∀ (j : Nat) t v, Try.f3.params[j]? = some t → args[j]? = some v → Value.okWide Try.prog W .any base t v)
    (hW : DataW.Whole enc Try.prog Try.f3.params.toList Rows.fnJoinIsSpec.vars false W args.toList ds gs before)
    (hsz0 : (DataW.weightsEach Try.prog (Try.f3.params.toList ++ Rows.fnJoinIsSpec.plain.varTypes Try.prog) (ds ++ gs)).all (· ≤ reachBytes) = true) :
    Calls Try.prog 3 args W fun e W' => ∃ v, e = .returned v ∧ Rows.fnJoinIsSpec.post enc Try.prog Try.f3 false true false false W args v W' := by
  have hval := hval0
  have hsz := hsz0
  clear hval0 hsz0
  have hW' := hW
  obtain ⟨p, q, hA0, hV, rfl, hfz, hnd⟩ := hW
  have hA : DataW.TrodAll enc Try.prog W 0 (fun _ => true) true Try.f3.params.toList args.toList ds p := hA0
  rw [Try.params3] at hA hval hsz
  obtain ⟨v0, vs0, d0, ds0, p0, q0, hargs, rfl, rfl, h0, r0x⟩ := trodAll_cons hA
  obtain ⟨v1, vs1, d1, ds1, p1, q1, rfl, rfl, rfl, h1, r1x⟩ := trodAll_cons r0x
  obtain ⟨rfl, rfl, rfl⟩ := trodAll_nil r1x
  obtain rfl : args = #[v0, v1] := by cases args; simp_all
  obtain ⟨rfl, rfl⟩ := trodVars_none hV
  obtain ⟨a0, len0, cap0, rfl⟩ := okWide_slice Try.underlying22 (hval 0 22 v0 rfl rfl)
  have k0 := h0
  have lt0 : ∀ x ∈ p0, x.block < W.heap.size := by obtain ⟨m, hm⟩ := k0; exact DataW.trod_lt m _ _ _ hm
  obtain ⟨z0, w0⟩ : ∃ zs, IsTexts W a0 len0 cap0 zs := by
    obtain ⟨fuel, hf⟩ := h0
    rcases open_strings Try.underlying22 Try.underlying9 (by kernel_rfl) hf with ⟨hcs, _⟩ | ⟨x, l, c, zs, hcs, _, hl, hm, hz, hd, hcell, hwz⟩
    · simp [Value.cells] at hcs
      obtain ⟨rfl, rfl, rfl⟩ := hcs
      exact ⟨[], .inl ⟨rfl, rfl, rfl, rfl⟩⟩
    · simp [Value.cells] at hcs
      obtain ⟨rfl, rfl, rfl⟩ := hcs
      simp only [if_true] at hz
      exact ⟨zs, .inr ⟨_, rfl, hl, hm, hz, hcell, hwz⟩⟩
  obtain ⟨a1, rfl, rfl, rfl, x1⟩ := open_string Try.underlying9 (hval 1 9 v1 rfl rfl) h1
  clear hA0
  have w1 : a1.size ≤ 140737488351232 := by have := sized_string hsz (j := 1) (t := 9) rfl rfl; simpa [reachBytes] using this
  refine (walk a0 len0 cap0 z0 a1 W w0 w1).mono fun e W' ⟨he, bel⟩ => ?_
  subst he
  exact ⟨_, rfl, _, _, _, [], _, [], hW', trodAll_mk1 (shut_bool Try.underlying4 _), (trodAll_cons_mk (Below.trod laidOut (by kernel_rfl) (of_decide_eq_true (by kernel_rfl)) k0 bel lt0) (trodAll_cons_mk (shut_string Try.underlying9 x1) trodAll_mk0)), rfl, bel.frame _, fun h => by cases h⟩

set_option maxRecDepth 100000 in
theorem lifted (os : Os) (started : os.Started) (H : Type) (enc : TypeId × Value → H) :
    ReturnsInHanded {} Try.checked os 3 .any (Rows.fnJoinIsSpec.pre6 enc Try.prog Try.f3 Rows.fnJoinIsRow.domain false) (Rows.fnJoinIsSpec.post enc Try.prog Try.f3 false true false false) := by
  refine returnsInHanded_of_change_sized (C := Try.checked) own started (by kernel_rfl) Try.func3
    (ChangeSpec.witness6 (enc := enc) (C := Try.checked) false ⟨#[], #[.slice none 0 0, .string ByteArray.empty], []⟩ 8 (by kernel_rfl) (by kernel_rfl) (by kernel_rfl) (by kernel_rfl)) ?_
  intro W base args ds gs before hval0 hW hcnd hsz0 _
  exact contract H enc W base args ds gs before hval0 hW hsz0

theorem proved : Rows.FnJoinIsSaid :=
  OpenClaim.holds_of_wide 3 Try.f3 rfl rfl rfl rfl rfl rfl rfl ⟨rfl, rfl, rfl, rfl, rfl⟩ rfl rfl rfl rfl rfl (by kernel_rfl) Try.func3 (by kernel_rfl)
    (of_decide_eq_true (by kernel_rfl)) (by unfold Func.isWrapper; first | (rw [if_pos (by decide +kernel)]; kernel_rfl) | (rw [if_neg (by decide +kernel)]; exact ⟨rfl, rfl⟩))
    (fun os started H enc _ => lifted os started H enc)
#print axioms proved
end Go.Proofs.Ytapdpkojjkbccaa.fnJoinIs
