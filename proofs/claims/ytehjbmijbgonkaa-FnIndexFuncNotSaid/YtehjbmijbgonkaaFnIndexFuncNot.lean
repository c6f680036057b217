/-
  For every text, list of runes and flag the law FnIndexFuncNot returns true and changes nothing. No condition.
-/
import Derived.Test.YtehjbmijbgonkaaRows
import Derived.Test.YtehjbmijbgonkaaTest
import Derived.WalkKit
import Derived.ProofKit
import Derived.OpenShut
import Derived.ShutString
import Derived.ChangeOld
import Derived.Below
import Derived.SizedLaws
import Derived.Lib.SmallJoins
import Derived.Deep.CondSized
namespace Go.Proofs.Ytehjbmijbgonkaa.fnIndexFuncNot
open Go.ChangeShapes Go.WideShapes Go.ChangeAt Go.RowKit Go.Joins
open Go.ChangeMaps (open_string shut_string)
set_option linter.unusedVariables false

theorem own : ownKnob Try.prog.godebug = none := by kernel_rfl
theorem laidOut : laidOutB Try.prog = true := by kernel_rfl
theorem idx_first (p : Nat → Bool) (s : ByteArray) (h : 0 < s.size) : Lib.idxFunc p true s = 0 ↔ p (Utf8.decode s 0).1 = true := by
  unfold Lib.idxFunc
  obtain ⟨n, hn⟩ : ∃ n, s.size = n + 1 := ⟨s.size - 1, by omega⟩
  have hw := Lib.width_pos s 0
  rw [hn]
  simp only [Lib.idxFuncFrom, h, if_true]
  have hr := Lib.idxFuncFrom_range p true s n (0 + (Utf8.decode s 0).2)
  cases hp : p (Utf8.decode s 0).1
  · simp only [Bool.false_eq_true, if_false, iff_false]; omega
  · simp
theorem idx_empty (p : Nat → Bool) (s : ByteArray) (h : s.size = 0) : Lib.idxFunc p true s = -1 := by
  unfold Lib.idxFunc; exact Lib.idxFuncFrom_end p true s _ 0 (by omega)
theorem hold_not (zs : List Int) (nt : Bool) (x : Int) : holdB zs (!nt) x = !holdB zs nt x := by unfold holdB; split <;> simp
set_option maxHeartbeats 1000000 in
theorem walk (a0 : ByteArray) (a1 : Option Addr) (len1 cap1 : Nat) (z1 : List Int) (a2 : Bool) (w : World) (w0 : a0.size ≤ 140737488351232) (w1 : IsRow .i32 w a1 len1 cap1 z1) (r1 : cap1 ≤ 35184372087808) :
    Calls Try.prog 4 #[.string a0, .slice a1 len1 cap1, .bool a2] w fun e w' => e = .returned (.bool true) ∧ Below w.heap.size w w' := by
  have hl := w1.lies
  have hn1 : a1 = none → len1 = 0 := fun h => by rcases w1 with ⟨_, h, _⟩ | ⟨x, h', _⟩; exact h; rw [h] at h'; cases h'
  have hle := w1.le
  generalize hzz : z1.take len1 = zs at *
  have hl' : Lies w w.heap.size 1 a1 len1 (ints zs) := hl
  clear hl
  have HL := Lib.hid hl'
  have HN := Lib.hid hn1
  have hlen : len1 ≤ 35184372088832 := by omega
  clear hl' hn1 hzz w1 hle r1
  have r1 := Lib.idxFunc_range (fun x => holdB zs a2 x) true a0
  have r2 := Lib.idxFunc_range (fun x => holdB zs (!a2) x) true a0
  generalize hi : Lib.idxFunc (fun x => holdB zs a2 x) true a0 = i at *
  generalize hk : Lib.idxFunc (fun x => holdB zs (!a2) x) true a0 = k at *
  have HI := Lib.hid hi; have HK := Lib.hid hk
  by_cases h0 : a0.size = 0
  · obtain rfl : i = -1 := by rw [← hi]; exact idx_empty _ _ h0
    obtain rfl : k = -1 := by rw [← hk]; exact idx_empty _ _ h0
    have he : a0.toList.isEmpty = true := by rw [Lib.toList_data]; rw [← len_data] at h0; rw [List.length_eq_zero_iff.1 h0]; rfl
    clear hi hk r1 r2 h0
    go_enter Try.func4, Try.ntmps4
    go_wp2_with fail
    refine (laws_test _ _ _ zs _ _ HN.out HL.out hlen).mono ?_; rintro e w1' ⟨a', l', c', rfl, hl1, hb1⟩
    have hle1 : l' ≤ 70368744177664 := by have := hl1.1; have := HL.out.1; simp [ints] at *; omega
    have L1 := Lib.hid hl1; have B1 := Lib.hid hb1; clear hl1 hb1
    go_wp2_with fail
    refine (impl_IndexFunc _ _ _ zs _ _ _ L1.out hle1).mono ?_; rintro e w2' ⟨rfl, hb2⟩; rw [HI.out]
    have B2 := Lib.hid (B1.out.trans (hb2.mono B1.out.size)); clear hb2 B1
    go_wp2_with fail
    refine (laws_test _ _ _ zs _ _ HN.out (HL.out.later B2.out) hlen).mono ?_; rintro e w3' ⟨a'', l'', c'', rfl, hl3, hb3⟩
    have hle3 : l'' ≤ 70368744177664 := by have := hl3.1; have := HL.out.1; simp [ints] at *; omega
    have L3 := Lib.hid hl3; have B3 := Lib.hid (B2.out.trans (hb3.mono B2.out.size)); clear hl3 hb3 B2
    go_wp2_with fail
    refine (impl_IndexFunc _ _ _ zs _ _ _ L3.out hle3).mono ?_; rintro e w4' ⟨rfl, hb4⟩; rw [HK.out]
    have B4 := Lib.hid (B3.out.trans (hb4.mono B3.out.size)); clear hb4 B3
    go_wp2_with fail
    go_ret
    exact ⟨rfl, B4.out⟩
  · have hd := idx_first (fun x => holdB zs a2 x) a0 (by omega)
    have hd2 := idx_first (fun x => holdB zs (!a2) x) a0 (by omega)
    rw [hi] at hd; rw [hk, hold_not] at hd2
    have hne : ∃ b, (i == 0) = b ∧ (k == 0) = !b := by
      refine ⟨holdB zs a2 (Utf8.decode a0 0).1, ?_, ?_⟩
      · rw [Bool.eq_iff_iff, beq_iff_eq]; exact hd
      · rw [Bool.eq_iff_iff, beq_iff_eq]; exact hd2
    have hmx : decide (max i k < (a0.size : Int)) = true := by simp; omega
    have he : a0.toList.isEmpty = false := by
      rw [Lib.toList_data]; rw [← len_data] at h0; cases h : a0.data.toList
      · rw [h] at h0; simp at h0
      · rfl
    have hx : -1 ≤ i ∧ i < a0.size := by omega
    have hy : -1 ≤ k ∧ k < a0.size := by omega
    clear hx hy
    clear hi hk r1 r2 h0 hd hd2
    obtain ⟨b, ib, kb⟩ := hne
    cases b <;> simp only [Bool.not_true, Bool.not_false] at kb
    all_goals
     go_enter Try.func4, Try.ntmps4
     go_wp2_with fail
     refine (laws_test _ _ _ zs _ _ HN.out HL.out hlen).mono ?_; rintro e w1' ⟨a', l', c', rfl, hl1, hb1⟩
     have hle1 : l' ≤ 70368744177664 := by have := hl1.1; have := HL.out.1; simp [ints] at *; omega
     have L1 := Lib.hid hl1; have B1 := Lib.hid hb1; clear hl1 hb1
     go_wp2_with fail
     refine (impl_IndexFunc _ _ _ zs _ _ _ L1.out hle1).mono ?_; rintro e w2' ⟨rfl, hb2⟩; rw [HI.out]
     have B2 := Lib.hid (B1.out.trans (hb2.mono B1.out.size)); clear hb2 B1
     go_wp2_with fail
     refine (laws_test _ _ _ zs _ _ HN.out (HL.out.later B2.out) hlen).mono ?_; rintro e w3' ⟨a'', l'', c'', rfl, hl3, hb3⟩
     have hle3 : l'' ≤ 70368744177664 := by have := hl3.1; have := HL.out.1; simp [ints] at *; omega
     have L3 := Lib.hid hl3; have B3 := Lib.hid (B2.out.trans (hb3.mono B2.out.size)); clear hl3 hb3 B2
     go_wp2_with fail
     refine (impl_IndexFunc _ _ _ zs _ _ _ L3.out hle3).mono ?_; rintro e w4' ⟨rfl, hb4⟩; rw [HK.out]
     have B4 := Lib.hid (B3.out.trans (hb4.mono B3.out.size)); clear hb4 B3
     go_wp2_with fail
     go_ret
     exact ⟨rfl, B4.out⟩

theorem contract (H : Type) (enc : TypeId × Value → H) (W : World) (base : Nat) (args : Array Value) (ds gs : List (DataW H)) (before : List MemPlace)
    (hval0 : ∀ (j : Nat) t v, Try.f4.params[j]? = some t → args[j]? = some v → Value.okWide Try.prog W .any base t v)
    (hW : DataW.Whole enc Try.prog Try.f4.params.toList Rows.fnIndexFuncNotSpec.vars false W args.toList ds gs before)
    (hsz0 : (DataW.weightsEach Try.prog (Try.f4.params.toList ++ Rows.fnIndexFuncNotSpec.plain.varTypes Try.prog) (ds ++ gs)).all (· ≤ reachBytes) = true) :
    Calls Try.prog 4 args W fun e W' => ∃ v, e = .returned v ∧ Rows.fnIndexFuncNotSpec.post enc Try.prog Try.f4 false true false false W args v W' := by
  have hval := hval0
  have hsz := hsz0
  clear hval0 hsz0
  have hW' := hW
  obtain ⟨p, q, hA0, hV, rfl, hfz, hnd⟩ := hW
  have hA : DataW.TrodAll enc Try.prog W 0 (fun _ => true) true Try.f4.params.toList args.toList ds p := hA0
  rw [Try.params4] at hA hval hsz
  obtain ⟨v0, vs0, d0, ds0, p0, q0, hargs, rfl, rfl, h0, r0x⟩ := trodAll_cons hA
  obtain ⟨v1, vs1, d1, ds1, p1, q1, rfl, rfl, rfl, h1, r1x⟩ := trodAll_cons r0x
  obtain ⟨v2, vs2, d2, ds2, p2, q2, rfl, rfl, rfl, h2, r2x⟩ := trodAll_cons r1x
  obtain ⟨rfl, rfl, rfl⟩ := trodAll_nil r2x
  obtain rfl : args = #[v0, v1, v2] := by cases args; simp_all
  obtain ⟨rfl, rfl⟩ := trodVars_none hV
  obtain ⟨a0, rfl, rfl, rfl, x0⟩ := open_string Try.underlying9 (hval 0 9 v0 rfl rfl) h0
  obtain ⟨a1, len1, cap1, rfl⟩ := okWide_slice Try.underlying22 (hval 1 22 v1 rfl rfl)
  have k1 := h1
  have lt1 : ∀ x ∈ p1, x.block < W.heap.size := by obtain ⟨m, hm⟩ := k1; exact DataW.trod_lt m _ _ _ hm
  obtain ⟨z1, w1, r1⟩ : ∃ zs, IsRow .i32 W a1 len1 cap1 zs ∧ cap1 ≤ 35184372087808 := by
    obtain ⟨fuel, hf⟩ := h1
    rcases open_ints Try.underlying22 Try.underlying21 (by kernel_rfl) hf with ⟨hcs, _⟩ | ⟨x, l, c, zs, hcs, _, hl, hm, hz, hd, hcell, hwz⟩
    · simp [Value.cells] at hcs
      obtain ⟨rfl, rfl, rfl⟩ := hcs
      exact ⟨[], .inl ⟨rfl, rfl, rfl, rfl⟩, by omega⟩
    · simp [Value.cells] at hcs
      obtain ⟨rfl, rfl, rfl⟩ := hcs
      simp only [if_true] at hz
      simp only [Prod.mk.injEq] at hd
      refine ⟨zs, .inr ⟨_, rfl, hl, hm, hz, hcell, hwz⟩, ?_⟩
      obtain ⟨hd, -⟩ := hd
      subst hd
      have hb := sized_slice hsz (j := 1) (t := 22) (e := 21) rfl rfl Try.underlying22
      rw [show Try.prog.bytesOf 21 = 4 by kernel_rfl] at hb
      simp [lits, reachBytes] at hb
      omega
  obtain ⟨a2, rfl, rfl, rfl⟩ := open_bool Try.underlying4 (hval 2 4 v2 rfl rfl) h2
  clear hA0
  have w0 : a0.size ≤ 140737488351232 := by have := sized_string hsz (j := 0) (t := 9) rfl rfl; simpa [reachBytes] using this
  refine (walk a0 a1 len1 cap1 z1 a2 W w0 w1 r1).mono fun e W' ⟨he, bel⟩ => ?_
  subst he
  exact ⟨_, rfl, _, _, _, [], _, [], hW', trodAll_mk1 (shut_bool Try.underlying4 _), (trodAll_cons_mk (shut_string Try.underlying9 x0) (trodAll_cons_mk (Below.trod laidOut (by kernel_rfl) (of_decide_eq_true (by kernel_rfl)) k1 bel lt1) (trodAll_cons_mk (shut_bool Try.underlying4 _) trodAll_mk0))), rfl, bel.frame _, fun h => by cases h⟩

set_option maxRecDepth 100000 in
theorem lifted (os : Os) (started : os.Started) (H : Type) (enc : TypeId × Value → H) :
    ReturnsInHanded {} Try.checked os 4 .any (Rows.fnIndexFuncNotSpec.pre6 enc Try.prog Try.f4 Rows.fnIndexFuncNotRow.domain false) (Rows.fnIndexFuncNotSpec.post enc Try.prog Try.f4 false true false false) := by
  refine returnsInHanded_of_change_sized (C := Try.checked) own started (by kernel_rfl) Try.func4
    (ChangeSpec.witness6 (enc := enc) (C := Try.checked) false ⟨#[], #[.string ByteArray.empty, .slice none 0 0, .bool false], []⟩ 8 (by kernel_rfl) (by kernel_rfl) (by kernel_rfl) (by kernel_rfl)) ?_
  intro W base args ds gs before hval0 hW hcnd hsz0 _
  exact contract H enc W base args ds gs before hval0 hW hsz0

theorem proved : Rows.FnIndexFuncNotSaid :=
  OpenClaim.holds_of_wide 4 Try.f4 rfl rfl rfl rfl rfl rfl rfl ⟨rfl, rfl, rfl, rfl, rfl⟩ rfl rfl rfl rfl rfl (by kernel_rfl) Try.func4 (by kernel_rfl)
    (of_decide_eq_true (by kernel_rfl)) (by unfold Func.isWrapper; first | (rw [if_pos (by decide +kernel)]; kernel_rfl) | (rw [if_neg (by decide +kernel)]; exact ⟨rfl, rfl⟩))
    (fun os started H enc _ => lifted os started H enc)
#print axioms proved
end Go.Proofs.Ytehjbmijbgonkaa.fnIndexFuncNot
