/-
  For every two lists of texts and text between the law FnJoinTwo returns true and changes nothing: two lists are joined as their texts are. No condition.
-/
import Derived.Test.YtapdpkojjkbccaaRows
import Derived.Test.YtapdpkojjkbccaaJoin
import Derived.WalkKit
import Derived.ProofKit
import Derived.OpenShut
import Derived.ShutString
import Derived.ChangeOld
import Derived.Below
import Derived.SizedLaws
import Derived.Lib.SmallJoins
import Derived.Deep.CondSized
namespace Go.Proofs.Ytapdpkojjkbccaa.fnJoinTwo
open Go.ChangeShapes Go.WideShapes Go.ChangeAt Go.RowKit Go.Joins
open Go.ChangeMaps (open_string shut_string)
set_option linter.unusedVariables false

theorem own : ownKnob Try.prog.godebug = none := by kernel_rfl
theorem laidOut : laidOutB Try.prog = true := by kernel_rfl
theorem joinTail_app (sep : List UInt8) (a b : List (List UInt8)) : Lib.joinTail sep (a ++ b) = Lib.joinTail sep a ++ Lib.joinTail sep b := by simp [Lib.joinTail]
theorem joinTail_cons (sep x : List UInt8) (r : List (List UInt8)) : Lib.joinTail sep (x :: r) = sep ++ x ++ Lib.joinTail sep r := by simp [Lib.joinTail]
theorem join_two (L M : List ByteArray) (sep : ByteArray) (h1 : L ≠ []) (h2 : M ≠ []) : joinB (L ++ M) sep = joinB L sep ++ sep ++ joinB M sep := by
  cases L with
  | nil => exact absurd rfl h1
  | cons x r =>
    cases M with
    | nil => exact absurd rfl h2
    | cons y q =>
      apply ByteArray.ext
      apply Array.ext'
      simp only [joinB, ByteArray.data_append, Array.toList_append, List.map_append, List.map_cons, List.cons_append, Lib.join_cons, joinTail_app, joinTail_cons]
      simp
set_option maxHeartbeats 1000000 in
theorem walk (a0 : Option Addr) (len0 cap0 : Nat) (z0 : List ByteArray) (a1 : Option Addr) (len1 cap1 : Nat) (z1 : List ByteArray) (a2 : ByteArray) (w : World) (w0 : IsTexts w a0 len0 cap0 z0) (w1 : IsTexts w a1 len1 cap1 z1) (w2 : a2.size ≤ 140737488351232) :
    Calls Try.prog 4 #[.slice a0 len0 cap0, .slice a1 len1 cap1, .string a2] w fun e w' => e = .returned (.bool true) ∧ Below w.heap.size w w' := by
  obtain ⟨i0, hi, hz0, hz1, hz2⟩ := info_parts Try.infoStr
  have hl := w0.lies
  have hle := w0.le
  have hwf := w0.wf
  have hcp := w0.cap
  unfold maxLen at hcp hwf
  generalize hzz : z0.take len0 = L at *
  obtain rfl : L.length = len0 := by have := hl.1; simpa [strs] using this
  have hws : ∀ s ∈ L, s.size ≤ 9223372036854775807 := fun s h => hwf s (by rw [← hzz] at h; exact List.mem_of_mem_take h)
  have CF := Lib.hid (fun w h => laws_few a0 cap0 L a2 w h (by omega) hws (by omega))
  have HL := Lib.hid hl
  have hlc : L.length ≤ cap0 := hle.1
  have kl := w1.lies
  have kle := w1.le
  have kwf := w1.wf
  have kcp := w1.cap
  unfold maxLen at kcp kwf
  generalize kzz : z1.take len1 = M at *
  obtain rfl : M.length = len1 := by have := kl.1; simpa [strs] using this
  have kws : ∀ s ∈ M, s.size ≤ 9223372036854775807 := fun s h => kwf s (by rw [← kzz] at h; exact List.mem_of_mem_take h)
  have KF := Lib.hid (fun w h => laws_few a1 cap1 M a2 w h (by omega) kws (by omega))
  have KL := Lib.hid kl
  have klc : M.length ≤ cap1 := kle.1
  have hLx : L.length ≤ 9223372036854775807 := by omega
  have hMx : M.length ≤ 9223372036854775807 := by omega
  clear hl hwf hws hzz w0 hcp hle kl kwf kws kzz w1 kcp kle
  by_cases hL0 : L.length = 0
  · go_enter Try.func4, Try.ntmps4
    go_wp2_with fail
    go_ret
    exact ⟨rfl, Below.refl _ _⟩
  by_cases hM0 : M.length = 0
  · go_enter Try.func4, Try.ntmps4
    go_wp2_with fail
    go_ret
    exact ⟨rfl, Below.refl _ _⟩
  have hLb : ((L.length : Int) == 0) = false := by rw [beq_eq_false_iff_ne]; omega
  have hMb : ((M.length : Int) == 0) = false := by rw [beq_eq_false_iff_ne]; omega
  have HT := Lib.hid (join_two L M a2 (fun h => hL0 (by rw [h]; rfl)) (fun h => hM0 (by rw [h]; rfl)))
  go_enter Try.func4, Try.ntmps4
  go_wp2_with fail
  refine (CF.out _ HL.out).mono ?_; rintro e w1 ⟨b, rfl, hb, hd⟩
  have B1 := Lib.hid (hd.below w.heap.size)
  have hsz1 := B1.out.size
  clear hd
  cases b with
  | false =>
    clear hb
    go_wp2_with fail
    go_ret
    exact ⟨rfl, B1.out⟩
  | true =>
    have hF := hb rfl
    have hLi : L.length ≤ 549755813888 := by have := hF.len; omega
    have HJL := Lib.hid (few_join hF)
    clear hb hF
    go_wp2_with fail
    refine (KF.out _ (KL.out.later B1.out)).mono ?_; rintro e w2 ⟨b, rfl, hb, hd⟩
    have B2 := Lib.hid (B1.out.trans (hd.below w.heap.size))
    clear hd
    cases b with
    | false =>
      clear hb
      go_wp2_with fail
      go_ret
      exact ⟨rfl, B2.out⟩
    | true =>
      have hF := hb rfl
      have hMi : M.length ≤ 549755813888 := by have := hF.len; omega
      have HJM := Lib.hid (few_join hF)
      have hsp : a2.size ≤ 549755813888 := by have := hF.sepl; omega
      clear hb hF
      have HL2 := Lib.hid (HL.out.later B2.out)
      have KL2 := Lib.hid (KL.out.later B2.out)
      obtain ⟨g, o, rfl, hg, hcl⟩ := HL2.out.2 (by omega)
      obtain ⟨g', o', rfl, hg', hcl'⟩ := KL2.out.2 (by omega)
      have HLn := Lib.hid HL2.out.news
      clear hcl hcl'
      go_wp2_with (at_builtin; first
        | (refine wpList_append_own _ rfl _ _ 22 rfl w2.heap.size 9 i0 (.string ⟨#[]⟩) 1 16 Try.underlying22 hi hz0 hz1 hz2 rfl (by decide) (.slice none 0 0) 0 [] rfl (World.ownsRow_nil _ _ _ _) ⟨g, o, none⟩ L.length cap0 (strs L) rfl (by simp [strs]) HLn.out (strs_one L) (by unfold maxLen; omega) (by omega) (Nat.le_refl _) ?_; intro v' w3 hown3 hgrow3 hnil; clear hnil; rw [Nat.zero_add, List.nil_append] at hown3; have HO3 := Lib.hid hown3; have hb3 : Below w2.heap.size w2 w3 := grown_below hgrow3 (Nat.le_refl _) (fun k h => by cases h); have B3 := Lib.hid (B2.out.trans (hb3.mono B2.out.size)); have KL3 := Lib.hid ((KL2.out.later hb3).news); have hs3 := hb3.size; clear hown3 hgrow3 hb3)
        | (refine wpList_append_own _ rfl _ _ 22 rfl w2.heap.size 9 i0 (.string ⟨#[]⟩) 1 16 Try.underlying22 hi hz0 hz1 hz2 rfl (by decide) v' L.length (strs L) rfl HO3.out ⟨g', o', none⟩ M.length cap1 (strs M) rfl (by simp [strs]) KL3.out (strs_one M) (by unfold maxLen; omega) (by omega) hs3 ?_; intro v'' w4 hown4 hgrow4 hnil; clear hnil))
      obtain ⟨a', cap', rfl⟩ := own_slice hown4
      have HO4 := Lib.hid (show w4.ownsRow w2.heap.size 9 1 (.slice a' (L ++ M).length cap') (L ++ M).length (strs (L ++ M)) by rw [List.length_append, show strs (L ++ M) = strs L ++ strs M by simp [strs]]; exact hown4)
      have B4 := Lib.hid (B3.out.grown hgrow4 B3.out.size (fun q e => Nat.le_trans B2.out.size (HO3.out.lt q e).1))
      have hjt : (joinB (L ++ M) a2).size ≤ 1099511627776 := by
        have h1 := HJL.out; have h2 := HJM.out
        rw [HT.out]; simp; omega
      have hj := impl_Join a' cap' (L ++ M) a2 w4 (Lies.of_own HO4.out) (own_cap HO4.out) (by rw [List.length_append]; omega) hjt
      rw [List.length_append, HT.out] at hj
      have CJ := Lib.hid hj
      have hXs : (joinB L a2).size ≤ 1099511627776 := Nat.le_trans HJL.out (by decide)
      have hYs : (joinB M a2).size ≤ 1099511627776 := Nat.le_trans HJM.out (by decide)
      have C1 := Lib.hid (fun w h => impl_Join (some ⟨g, o, none⟩) cap0 L a2 w h hlc (by omega) hXs)
      have C2 := Lib.hid (fun w h => impl_Join (some ⟨g', o', none⟩) cap1 M a2 w h klc (by omega) hYs)
      clear hown4 hgrow4 hj hjt HT HJL HJM
      generalize joinB L a2 = X at *
      generalize joinB M a2 = Y at *
      refine CJ.out.mono ?_; rintro e w5 ⟨rfl, hb5⟩
      have B5 := Lib.hid (B4.out.trans (hb5.mono B4.out.size)); clear hb5
      go_wp2_with fail
      refine (C1.out _ (HL.out.later B5.out)).mono ?_; rintro e w6 ⟨rfl, hb6⟩
      have B6 := Lib.hid (B5.out.trans (hb6.mono B5.out.size)); clear hb6
      go_wp2_with fail
      refine (C2.out _ (KL.out.later B6.out)).mono ?_; rintro e w7 ⟨rfl, hb7⟩
      have B7 := Lib.hid (B6.out.trans (hb7.mono B6.out.size)); clear hb7
      go_wp2_with fail
      go_ret
      exact ⟨rfl, B7.out⟩

theorem contract (H : Type) (enc : TypeId × Value → H) (W : World) (base : Nat) (args : Array Value) (ds gs : List (DataW H)) (before : List MemPlace)
    (hval0 : ∀ (j : Nat) t v, Try.f4.params[j]? = some t → args[j]? = some v → Value.okWide Try.prog W .any base t v)
    (hW : DataW.Whole enc Try.prog Try.f4.params.toList Rows.fnJoinTwoSpec.vars false W args.toList ds gs before)
    (hsz0 : (DataW.weightsEach Try.prog (Try.f4.params.toList ++ Rows.fnJoinTwoSpec.plain.varTypes Try.prog) (ds ++ gs)).all (· ≤ reachBytes) = true) :
    Calls Try.prog 4 args W fun e W' => ∃ v, e = .returned v ∧ Rows.fnJoinTwoSpec.post enc Try.prog Try.f4 false true false false W args v W' := by
  have hval := hval0
  have hsz := hsz0
  clear hval0 hsz0
  have hW' := hW
  obtain ⟨p, q, hA0, hV, rfl, hfz, hnd⟩ := hW
  have hA : DataW.TrodAll enc Try.prog W 0 (fun _ => true) true Try.f4.params.toList args.toList ds p := hA0
  rw [Try.params4] at hA hval hsz
  obtain ⟨v0, vs0, d0, ds0, p0, q0, hargs, rfl, rfl, h0, r0x⟩ := trodAll_cons hA
  obtain ⟨v1, vs1, d1, ds1, p1, q1, rfl, rfl, rfl, h1, r1x⟩ := trodAll_cons r0x
  obtain ⟨v2, vs2, d2, ds2, p2, q2, rfl, rfl, rfl, h2, r2x⟩ := trodAll_cons r1x
  obtain ⟨rfl, rfl, rfl⟩ := trodAll_nil r2x
  obtain rfl : args = #[v0, v1, v2] := by cases args; simp_all
  obtain ⟨rfl, rfl⟩ := trodVars_none hV
  obtain ⟨a0, len0, cap0, rfl⟩ := okWide_slice Try.underlying22 (hval 0 22 v0 rfl rfl)
  have k0 := h0
  have lt0 : ∀ x ∈ p0, x.block < W.heap.size := by obtain ⟨m, hm⟩ := k0; exact DataW.trod_lt m _ _ _ hm
  obtain ⟨z0, w0⟩ : ∃ zs, IsTexts W a0 len0 cap0 zs := by
    obtain ⟨fuel, hf⟩ := h0
    rcases open_strings Try.underlying22 Try.underlying9 (by kernel_rfl) hf with ⟨hcs, _⟩ | ⟨x, l, c, zs, hcs, _, hl, hm, hz, hd, hcell, hwz⟩
    · simp [Value.cells] at hcs
      obtain ⟨rfl, rfl, rfl⟩ := hcs
      exact ⟨[], .inl ⟨rfl, rfl, rfl, rfl⟩⟩
    · simp [Value.cells] at hcs
      obtain ⟨rfl, rfl, rfl⟩ := hcs
      simp only [if_true] at hz
      exact ⟨zs, .inr ⟨_, rfl, hl, hm, hz, hcell, hwz⟩⟩
  obtain ⟨a1, len1, cap1, rfl⟩ := okWide_slice Try.underlying22 (hval 1 22 v1 rfl rfl)
  have k1 := h1
  have lt1 : ∀ x ∈ p1, x.block < W.heap.size := by obtain ⟨m, hm⟩ := k1; exact DataW.trod_lt m _ _ _ hm
  obtain ⟨z1, w1⟩ : ∃ zs, IsTexts W a1 len1 cap1 zs := by
    obtain ⟨fuel, hf⟩ := h1
    rcases open_strings Try.underlying22 Try.underlying9 (by kernel_rfl) hf with ⟨hcs, _⟩ | ⟨x, l, c, zs, hcs, _, hl, hm, hz, hd, hcell, hwz⟩
    · simp [Value.cells] at hcs
      obtain ⟨rfl, rfl, rfl⟩ := hcs
      exact ⟨[], .inl ⟨rfl, rfl, rfl, rfl⟩⟩
    · simp [Value.cells] at hcs
      obtain ⟨rfl, rfl, rfl⟩ := hcs
      simp only [if_true] at hz
      exact ⟨zs, .inr ⟨_, rfl, hl, hm, hz, hcell, hwz⟩⟩
  obtain ⟨a2, rfl, rfl, rfl, x2⟩ := open_string Try.underlying9 (hval 2 9 v2 rfl rfl) h2
  clear hA0
  have w2 : a2.size ≤ 140737488351232 := by have := sized_string hsz (j := 2) (t := 9) rfl rfl; simpa [reachBytes] using this
  refine (walk a0 len0 cap0 z0 a1 len1 cap1 z1 a2 W w0 w1 w2).mono fun e W' ⟨he, bel⟩ => ?_
  subst he
  exact ⟨_, rfl, _, _, _, [], _, [], hW', trodAll_mk1 (shut_bool Try.underlying4 _), (trodAll_cons_mk (Below.trod laidOut (by kernel_rfl) (of_decide_eq_true (by kernel_rfl)) k0 bel lt0) (trodAll_cons_mk (Below.trod laidOut (by kernel_rfl) (of_decide_eq_true (by kernel_rfl)) k1 bel lt1) (trodAll_cons_mk (shut_string Try.underlying9 x2) trodAll_mk0))), rfl, bel.frame _, fun h => by cases h⟩

set_option maxRecDepth 100000 in
theorem lifted (os : Os) (started : os.Started) (H : Type) (enc : TypeId × Value → H) :
    ReturnsInHanded {} Try.checked os 4 .any (Rows.fnJoinTwoSpec.pre6 enc Try.prog Try.f4 Rows.fnJoinTwoRow.domain false) (Rows.fnJoinTwoSpec.post enc Try.prog Try.f4 false true false false) := by
  refine returnsInHanded_of_change_sized (C := Try.checked) own started (by kernel_rfl) Try.func4
    (ChangeSpec.witness6 (enc := enc) (C := Try.checked) false ⟨#[], #[.slice none 0 0, .slice none 0 0, .string ByteArray.empty], []⟩ 8 (by kernel_rfl) (by kernel_rfl) (by kernel_rfl) (by kernel_rfl)) ?_
  intro W base args ds gs before hval0 hW hcnd hsz0 _
  exact contract H enc W base args ds gs before hval0 hW hsz0

theorem proved : Rows.FnJoinTwoSaid :=
  OpenClaim.holds_of_wide 4 Try.f4 rfl rfl rfl rfl rfl rfl rfl ⟨rfl, rfl, rfl, rfl, rfl⟩ rfl rfl rfl rfl rfl (by kernel_rfl) Try.func4 (by kernel_rfl)
    (of_decide_eq_true (by kernel_rfl)) (by unfold Func.isWrapper; first | (rw [if_pos (by decide +kernel)]; kernel_rfl) | (rw [if_neg (by decide +kernel)]; exact ⟨rfl, rfl⟩))
    (fun os started H enc _ => lifted os started H enc)
#print axioms proved
end Go.Proofs.Ytapdpkojjkbccaa.fnJoinTwo
