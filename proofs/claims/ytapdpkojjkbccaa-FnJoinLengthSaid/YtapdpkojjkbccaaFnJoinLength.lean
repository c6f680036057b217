/-
  For every list of texts and text between the law FnJoinLength returns true and changes nothing: how long joined texts are, what they begin and end with. No condition.
-/
import Derived.Test.YtapdpkojjkbccaaRows
import Derived.Test.YtapdpkojjkbccaaJoin
import Derived.Test.YtapdpkojjkbccaaImplA
import Derived.Test.YtapdpkojjkbccaaPlainB
import Derived.WalkKit
import Derived.ProofKit
import Derived.OpenShut
import Derived.ShutString
import Derived.ChangeOld
import Derived.Below
import Derived.SizedLaws
import Derived.Lib.SmallJoins
import Derived.Deep.CondSized
namespace Go.Proofs.Ytapdpkojjkbccaa.fnJoinLength
open Go.ChangeShapes Go.WideShapes Go.ChangeAt Go.RowKit Go.Joins
open Go.ChangeMaps (open_string shut_string)
set_option linter.unusedVariables false

theorem own : ownKnob Try.prog.godebug = none := by kernel_rfl
theorem laidOut : laidOutB Try.prog = true := by kernel_rfl
theorem join_size (L : List ByteArray) (sep : ByteArray) (m : Nat) (h : L.length = m + 1) : (joinB L sep).size = lensB L + m * sep.size := by
  have hs : (joinB L sep).size = (Lib.join (L.map (·.data.toList)) sep.data.toList).length := by show (List.toArray _).size = _; simp
  rw [hs]
  cases L with
  | nil => simp at h
  | cons x r =>
    rw [List.map_cons, Lib.join_length, ← List.map_cons (f := fun s : ByteArray => s.data.toList), lens_is, len_data, List.length_map]
    have : r.length = m := by simpa using h
    rw [this, Nat.mul_comm, Nat.add_comm]
theorem join_begins (L : List ByteArray) (sep : ByteArray) (h : 0 < L.length) : Lib.hasPrefix (joinB L sep).data.toList L[0].data.toList = true := by
  cases L with
  | nil => simp at h
  | cons x r =>
    have : (joinB (x :: r) sep).data.toList = x.data.toList ++ Lib.joinTail sep.data.toList (r.map (·.data.toList)) := by simp [joinB, Lib.join_cons]
    rw [this]; exact hp_app _ _
theorem join_ends (L : List ByteArray) (sep : ByteArray) (m : Nat) (h : L.length = m + 1) : Lib.hasSuffix (joinB L sep).data.toList (L[m]'(by omega)).data.toList = true := by
  have hj : (joinB L sep).data.toList = joinK L sep (m + 1) := by rw [← joinK_all, h]
  rw [hj]
  rcases Nat.eq_zero_or_pos m with h0 | h0
  · subst h0
    rw [joinK_one L sep (by omega)]
    have := hs_app [] (L[0]'(by omega)).data.toList
    simpa using this
  · rw [joinK_succ L sep m h0 (by omega)]; exact hs_app _ _
set_option maxHeartbeats 1000000 in
theorem walk (a0 : Option Addr) (len0 cap0 : Nat) (z0 : List ByteArray) (a1 : ByteArray) (w : World) (w0 : IsTexts w a0 len0 cap0 z0) (w1 : a1.size ≤ 140737488351232) :
    Calls Try.prog 5 #[.slice a0 len0 cap0, .string a1] w fun e w' => e = .returned (.bool true) ∧ Below w.heap.size w w' := by
  obtain ⟨i0, hi, hz0, hz1, hz2⟩ := info_parts Try.infoStr
  have hl := w0.lies
  have hle := w0.le
  have hwf := w0.wf
  have hcp := w0.cap
  have hn0 : a0 = none → len0 = 0 := fun h => by rcases w0 with ⟨_, h, _⟩ | ⟨x, h', _⟩; exact h; rw [h] at h'; cases h'
  unfold maxLen at hcp hwf
  generalize hzz : z0.take len0 = L at *
  obtain rfl : L.length = len0 := by have := hl.1; simpa [strs] using this
  have hws : ∀ s ∈ L, s.size ≤ 9223372036854775807 := fun s h => hwf s (by rw [← hzz] at h; exact List.mem_of_mem_take h)
  have CF := Lib.hid (laws_few a0 cap0 L a1 w hl (by omega) hws (by omega))
  have HL := Lib.hid hl
  have HN := Lib.hid hn0
  have hlc : L.length ≤ cap0 := hle.1
  clear hl hwf hws hzz w0 hn0 hcp hle
  go_enter Try.func5, Try.ntmps5
  go_wp2_with fail
  refine CF.out.mono ?_; rintro e w1 ⟨b, rfl, hb, hd⟩
  have B1 := Lib.hid (hd.below w.heap.size)
  have hsz1 := B1.out.size
  clear hd
  cases b with
  | false =>
    clear hb
    go_wp2_with fail
    go_ret
    exact ⟨rfl, B1.out⟩
  | true =>
    have hF := hb rfl
    have hLi : L.length ≤ 1099511627776 := by have := hF.len; omega
    have hsp : a1.size ≤ 1099511627776 := by have := hF.sepl; omega
    have hsum : lensB L ≤ 1099511627776 := by have := hF.sum; omega
    have HJS := Lib.hid (Nat.le_trans (few_join hF) (show 33554432 ≤ 1099511627776 by decide))
    clear hb hF CF
    have HSB := Lib.hid (fun k (h : k < L.length) => lensB_take L k h)
    have HSL := Lib.hid (show ∀ k, lensB (L.take k) ≤ lensB L from fun k => by
      unfold lensB; rw [List.map_take]
      conv => rhs; rw [← List.take_append_drop k (L.map (·.size))]
      rw [List.sum_append]; omega)
    go_wp2_with fail
    go_loopw [5, 15] (fun vn vi wr => ∃ k : Nat, k ≤ L.length ∧ vi = .int .i64 (k : Int) ∧ vn = .int .i64 (lensB (L.take k) : Int) ∧ Hid (Below w.heap.size w wr)) (fun _ vi _ => L.length - (intOf vi).toNat)
    case atStart => exact ⟨0, Nat.zero_le _, rfl, rfl, B1.out⟩
    case round =>
      clear B1 hsz1 w1
      obtain ⟨k, hk, rfl, rfl, HB⟩ := hrel
      by_cases hlt : k < L.length
      · obtain ⟨g, o, rfl, hg, hcl⟩ := (HL.out.below HB.out).2 (by omega)
        have hks : k < (strs L).length := by simp [strs]; exact hlt
        have hcell : wr.cell? ⟨g, o + k, none⟩ = some (.string L[k]) := by rw [hcl k hks, strs_at hlt hks]
        have hst := HSB.out k hlt
        have hb1 := HSL.out (k + 1)
        rw [hst] at hb1
        generalize L[k] = F at *
        generalize lensB (L.take k) = S at *
        have hSb : S ≤ 1099511627776 := by omega
        have hFb : F.size ≤ 1099511627776 := by omega
        have HST := Lib.hid hst
        clear hst hb1 hcl hks hsum
        go_wp2_with fail
        exact ⟨⟨k + 1, by omega, rfl, by rw [HST.out]; simp, HB.out⟩, by simp [intOf]; omega⟩
      · obtain rfl : k = L.length := by omega
        rw [List.take_length]
        have HL1 := Lib.hid (HL.out.later HB.out)
        have hszr := HB.out.size
        rcases Nat.eq_zero_or_pos L.length with h0 | h0
        · obtain rfl : L = [] := List.length_eq_zero_iff.1 h0
          clear h0
          have HJE := Lib.hid (show joinB [] a1 = ⟨#[]⟩ from rfl)
          rcases a0 with _ | x
          · have HE := Lib.hid (show Lies wr wr.heap.size 1 none ([] : List ByteArray).length (strs []) from Lies.empty)
            go_wp2_with fail
            refine (impl_Join none 0 [] a1 _ HE.out (by simp) hLi HJS.out).mono ?_; rintro e w3 ⟨rfl, hb3⟩; rw [HJE.out]
            have B3 := Lib.hid (HB.out.trans (hb3.mono HB.out.size)); clear hb3
            go_wp2_with fail
            go_ret
            exact ⟨rfl, B3.out⟩
          · have HLn := Lib.hid HL1.out.news
            go_wp2_with (at_builtin; refine wpList_append_own _ rfl _ _ 22 rfl wr.heap.size 9 i0 (.string ⟨#[]⟩) 1 16 Try.underlying22 hi hz0 hz1 hz2 rfl (by decide) (.slice none 0 0) 0 [] rfl (World.ownsRow_nil _ _ _ _) x ([] : List ByteArray).length cap0 (strs []) rfl (by simp [strs]) HLn.out (strs_one []) (by unfold maxLen; omega) (by omega) (Nat.le_refl _) ?_; intro v' w2 hown2 hgrow2 hnil; clear hnil; rw [Nat.zero_add, List.nil_append] at hown2; obtain ⟨a', cap', rfl⟩ := own_slice hown2; have HO2 := Lib.hid hown2; have hb2 : Below wr.heap.size wr w2 := grown_below hgrow2 (Nat.le_refl _) (fun k h => by cases h); have B2 := Lib.hid (HB.out.trans (hb2.mono HB.out.size)); clear hown2 hgrow2 hb2)
            refine (impl_Join a' cap' [] a1 _ (Lies.of_own HO2.out) (own_cap HO2.out) hLi HJS.out).mono ?_; rintro e w3 ⟨rfl, hb3⟩; rw [HJE.out]
            have B3 := Lib.hid (B2.out.trans (hb3.mono B2.out.size)); clear hb3
            go_wp2_with fail
            go_ret
            exact ⟨rfl, B3.out⟩
        · obtain ⟨m, hm⟩ : ∃ m, L.length = m + 1 := ⟨L.length - 1, by omega⟩
          have hjz := join_size L a1 m hm
          have HJP := Lib.hid (join_begins L a1 h0)
          have HJQ := Lib.hid (join_ends L a1 m hm)
          obtain ⟨g, o, rfl, hg, hcl⟩ := HL.out.2 h0
          have hmul : m * a1.size ≤ 1099511627776 := by have := HJS.out; omega
          have hjs := HJS.out
          have HLn := Lib.hid HL1.out.news
          have HC0 := Lib.hid (show ∀ W, Below w.heap.size w W → W.cell? ⟨g, o, none⟩ = some (.string L[0]) from fun W hb => by
            have h1 : 0 < (strs L).length := by simp [strs]; exact h0
            have := hcl 0 h1
            rw [strs_at h0 h1, Nat.add_zero] at this
            exact (hb.cell (p := ⟨g, o, none⟩) hg).trans this)
          have HCm := Lib.hid (show ∀ W, Below w.heap.size w W → W.cell? ⟨g, o + m, none⟩ = some (.string (L[m]'(by omega))) from fun W hb => by
            have h1 : m < (strs L).length := by simp [strs]; omega
            have := hcl m h1
            rw [strs_at (by omega) h1] at this
            exact (hb.cell (p := ⟨g, o + m, none⟩) hg).trans this)
          clear hcl
          have hjm : ((m : Int)) * (a1.size : Int) = ((m * a1.size : Nat) : Int) := by simp
          have CJ := Lib.hid (fun (a : Option Addr) (c : Nat) (w : World) h1 h2 => impl_Join a c L a1 w h1 h2 hLi HJS.out)
          generalize hQ : m * a1.size = Q at *
          generalize hS : lensB L = S at *
          generalize hT : joinB L a1 = T at *
          have hA : (L.length : Int) - 1 = (m : Int) := by omega
          have hlt1 : 1 ≤ (L.length : Int) := by omega
          have hml : m < L.length := by omega
          have hL0 : (L.length == 0) = false := beq_eq_false_iff_ne.2 (by omega)
          have hL0' : ((L.length : Int) == 0) = false := beq_eq_false_iff_ne.2 (by omega)
          have hjeq : ((T.size : Int) == (S : Int) + (Q : Int)) = true := by simp; omega
          generalize hY0 : L[0]'h0 = Y at *
          generalize hXm : L[m]'hml = X at *
          clear hm hjz hQ hS hT hY0 hXm
          go_wp2_with (at_builtin; refine wpList_append_own _ rfl _ _ 22 rfl wr.heap.size 9 i0 (.string ⟨#[]⟩) 1 16 Try.underlying22 hi hz0 hz1 hz2 rfl (by decide) (.slice none 0 0) 0 [] rfl (World.ownsRow_nil _ _ _ _) ⟨g, o, none⟩ L.length cap0 (strs L) rfl (by simp [strs]) HLn.out (strs_one L) (by unfold maxLen; omega) (by omega) (Nat.le_refl _) ?_; intro v' w2 hown2 hgrow2 hnil; clear hnil; rw [Nat.zero_add, List.nil_append] at hown2; obtain ⟨a', cap', rfl⟩ := own_slice hown2; have HO2 := Lib.hid hown2; have hb2 : Below wr.heap.size wr w2 := grown_below hgrow2 (Nat.le_refl _) (fun k h => by cases h); have B2 := Lib.hid (HB.out.trans (hb2.mono HB.out.size)); clear hown2 hgrow2 hb2)
          refine (CJ.out a' cap' _ (Lies.of_own HO2.out) (own_cap HO2.out)).mono ?_; rintro e w3 ⟨rfl, hb3⟩
          have B3 := Lib.hid (B2.out.trans (hb3.mono B2.out.size)); clear hb3
          have c0 := HC0.out _ B3.out
          have cm := HCm.out _ B3.out
          go_wp2_with fail
          refine (impl_HasPrefix _ _ _).mono ?_; rintro e w4 ⟨rfl, rfl⟩; rw [HJP.out]
          go_wp2_with fail
          refine (impl_HasSuffix _ _ (by omega) _).mono ?_; rintro e w4 ⟨rfl, rfl⟩; rw [HJQ.out]
          go_wp2_with fail
          go_ret
          exact ⟨rfl, B3.out⟩

theorem contract (H : Type) (enc : TypeId × Value → H) (W : World) (base : Nat) (args : Array Value) (ds gs : List (DataW H)) (before : List MemPlace)
    (hval0 : ∀ (j : Nat) t v, Try.f5.params[j]? = some t → args[j]? = some v → Value.okWide Try.prog W .any base t v)
    (hW : DataW.Whole enc Try.prog Try.f5.params.toList Rows.fnJoinLengthSpec.vars false W args.toList ds gs before)
    (hsz0 : (DataW.weightsEach Try.prog (Try.f5.params.toList ++ Rows.fnJoinLengthSpec.plain.varTypes Try.prog) (ds ++ gs)).all (· ≤ reachBytes) = true) :
    Calls Try.prog 5 args W fun e W' => ∃ v, e = .returned v ∧ Rows.fnJoinLengthSpec.post enc Try.prog Try.f5 false true false false W args v W' := by
  have hval := hval0
  have hsz := hsz0
  clear hval0 hsz0
  have hW' := hW
  obtain ⟨p, q, hA0, hV, rfl, hfz, hnd⟩ := hW
  have hA : DataW.TrodAll enc Try.prog W 0 (fun _ => true) true Try.f5.params.toList args.toList ds p := hA0
  rw [Try.params5] at hA hval hsz
  obtain ⟨v0, vs0, d0, ds0, p0, q0, hargs, rfl, rfl, h0, r0x⟩ := trodAll_cons hA
  obtain ⟨v1, vs1, d1, ds1, p1, q1, rfl, rfl, rfl, h1, r1x⟩ := trodAll_cons r0x
  obtain ⟨rfl, rfl, rfl⟩ := trodAll_nil r1x
  obtain rfl : args = #[v0, v1] := by cases args; simp_all
  obtain ⟨rfl, rfl⟩ := trodVars_none hV
  obtain ⟨a0, len0, cap0, rfl⟩ := okWide_slice Try.underlying22 (hval 0 22 v0 rfl rfl)
  have k0 := h0
  have lt0 : ∀ x ∈ p0, x.block < W.heap.size := by obtain ⟨m, hm⟩ := k0; exact DataW.trod_lt m _ _ _ hm
  obtain ⟨z0, w0⟩ : ∃ zs, IsTexts W a0 len0 cap0 zs := by
    obtain ⟨fuel, hf⟩ := h0
    rcases open_strings Try.underlying22 Try.underlying9 (by kernel_rfl) hf with ⟨hcs, _⟩ | ⟨x, l, c, zs, hcs, _, hl, hm, hz, hd, hcell, hwz⟩
    · simp [Value.cells] at hcs
      obtain ⟨rfl, rfl, rfl⟩ := hcs
      exact ⟨[], .inl ⟨rfl, rfl, rfl, rfl⟩⟩
    · simp [Value.cells] at hcs
      obtain ⟨rfl, rfl, rfl⟩ := hcs
      simp only [if_true] at hz
      exact ⟨zs, .inr ⟨_, rfl, hl, hm, hz, hcell, hwz⟩⟩
  obtain ⟨a1, rfl, rfl, rfl, x1⟩ := open_string Try.underlying9 (hval 1 9 v1 rfl rfl) h1
  clear hA0
  have w1 : a1.size ≤ 140737488351232 := by have := sized_string hsz (j := 1) (t := 9) rfl rfl; simpa [reachBytes] using this
  refine (walk a0 len0 cap0 z0 a1 W w0 w1).mono fun e W' ⟨he, bel⟩ => ?_
  subst he
  exact ⟨_, rfl, _, _, _, [], _, [], hW', trodAll_mk1 (shut_bool Try.underlying4 _), (trodAll_cons_mk (Below.trod laidOut (by kernel_rfl) (of_decide_eq_true (by kernel_rfl)) k0 bel lt0) (trodAll_cons_mk (shut_string Try.underlying9 x1) trodAll_mk0)), rfl, bel.frame _, fun h => by cases h⟩

set_option maxRecDepth 100000 in
theorem lifted (os : Os) (started : os.Started) (H : Type) (enc : TypeId × Value → H) :
    ReturnsInHanded {} Try.checked os 5 .any (Rows.fnJoinLengthSpec.pre6 enc Try.prog Try.f5 Rows.fnJoinLengthRow.domain false) (Rows.fnJoinLengthSpec.post enc Try.prog Try.f5 false true false false) := by
  refine returnsInHanded_of_change_sized (C := Try.checked) own started (by kernel_rfl) Try.func5
    (ChangeSpec.witness6 (enc := enc) (C := Try.checked) false ⟨#[], #[.slice none 0 0, .string ByteArray.empty], []⟩ 8 (by kernel_rfl) (by kernel_rfl) (by kernel_rfl) (by kernel_rfl)) ?_
  intro W base args ds gs before hval0 hW hcnd hsz0 _
  exact contract H enc W base args ds gs before hval0 hW hsz0

theorem proved : Rows.FnJoinLengthSaid :=
  OpenClaim.holds_of_wide 5 Try.f5 rfl rfl rfl rfl rfl rfl rfl ⟨rfl, rfl, rfl, rfl, rfl⟩ rfl rfl rfl rfl rfl (by kernel_rfl) Try.func5 (by kernel_rfl)
    (of_decide_eq_true (by kernel_rfl)) (by unfold Func.isWrapper; first | (rw [if_pos (by decide +kernel)]; kernel_rfl) | (rw [if_neg (by decide +kernel)]; exact ⟨rfl, rfl⟩))
    (fun os started H enc _ => lifted os started H enc)
#print axioms proved
end Go.Proofs.Ytapdpkojjkbccaa.fnJoinLength
