/-
  For every text the law FnExactLines returns true and changes nothing: strings.Lines answers as the reference does. No condition.
-/
import Derived.Test.YtmfjmikiebijgaaRows
import Derived.Test.YtmfjmikiebijgaaLineS
import Derived.Test.YtmfjmikiebijgaaStrs
import Derived.WalkKit
import Derived.ProofKit
import Derived.OpenShut
import Derived.ShutString
import Derived.ChangeOld
import Derived.Below
import Derived.SizedLaws
import Derived.Lib.SmallJoins
import Derived.Deep.CondSized
namespace Go.Proofs.Ytmfjmikiebijgaa.fnExactLines
open Go.ChangeShapes Go.WideShapes Go.ChangeAt Go.RowKit Go.Joins
open Go.ChangeMaps (open_string shut_string)
set_option linter.unusedVariables false

theorem own : ownKnob Try.prog.godebug = none := by kernel_rfl
theorem laidOut : laidOutB Try.prog = true := by kernel_rfl
set_option maxHeartbeats 1000000 in
theorem walk (a0 : ByteArray) (w : World) (w0 : a0.size ≤ 140737488351232) :
    Calls Try.prog 12 #[.string a0] w fun e w' => e = .returned (.bool true) ∧ Below w.heap.size w w' := by
  by_cases h1 : a0.size ≤ 1048576
  · have hLn : (linesB a0).length ≤ 1048576 := Nat.le_trans (linesB_len a0) h1
    have CS := Lib.hid (fun (W : World) (hb : Below w.heap.size w W) => spec_Lines a0 W (by omega))
    have CI := Lib.hid (fun (W : World) (hb : Below w.heap.size w W) => impl_Lines a0 W (by omega))
    generalize linesB a0 = L at *
    go_enter Try.func12, Try.ntmps12
    go_wp2_with fail
    refine (CS.out w (Below.refl _ _)).mono ?_; rintro e w1 ⟨a1, c1, rfl, hl1, hb1⟩
    have B1 := Lib.hid hb1
    have L1 := Lib.hid hl1
    clear hb1 hl1
    go_wp2_with fail
    refine (CI.out _ B1.out).mono ?_; rintro e w2 ⟨g, c, rfl, ho2, hb2⟩
    have B2 := Lib.hid (B1.out.trans (hb2.mono B1.out.size))
    have O2 := Lib.hid ho2
    have K2 := Lib.hid (L1.out.below hb2)
    have E1 := Lib.hid (K2.out.up hb2.size)
    have E2 := Lib.hid (show Lies w2 w2.heap.size 1 (some ⟨g, 0, none⟩) L.length (strs L) from Lies.of_own ho2)
    have hs2 := hb2.size
    clear hb2 ho2
    go_wp2_with fail
    refine (laws_eqStringS _ _ _ _ L _ E2.out E1.out (by omega)).mono ?_; rintro e w3 ⟨rfl, hd3⟩
    have hb3 := hd3.below w2.heap.size
    have B3 := Lib.hid (B2.out.trans (hb3.mono B2.out.size))
    have O3 := Lib.hid (show OwnStrs w3 w1.heap.size g L.length c L from own_later O2.out hb3)
    have K3 := Lib.hid (K2.out.below (hb3.mono hs2))
    have hs3 := Nat.le_trans hs2 hb3.size
    clear hd3 hb3 E1 E2 K2 O2
    go_wp2_with fail
    refine (laws_markStringS w1.heap.size g L.length c L _ O3.out (by omega) hs3).mono ?_; rintro e w4 ⟨rfl, ho4, hb4⟩
    have B4 := Lib.hid (B3.out.trans (hb4.mono B1.out.size))
    have O4 := Lib.hid ho4
    have K4 := Lib.hid (K3.out.below hb4)
    have hs4 := Nat.le_trans hs3 hb4.size
    clear hb4 ho4 O3 K3
    go_wp2_with fail
    refine (laws_heldStringS w1.heap.size g L.length c _ O4.out (by omega)).mono ?_; rintro e w5 ⟨rfl, hb5⟩
    have B5 := Lib.hid (B4.out.trans (hb5.mono B4.out.size))
    have O5 := Lib.hid (show OwnStrs w5 w1.heap.size g L.length c (marks 1 L.length) from own_later O4.out hb5)
    have K5 := Lib.hid (K4.out.below (hb5.mono hs4))
    have hs5 := Nat.le_trans hs4 hb5.size
    clear hb5 O4 K4
    go_wp2_with fail
    refine (CI.out _ B5.out).mono ?_; rintro e w6 ⟨g6, c6, rfl, ho6, hb6⟩
    have B6 := Lib.hid (B5.out.trans (hb6.mono B5.out.size))
    have O6 := Lib.hid (show OwnStrs w6 w1.heap.size g L.length c (marks 1 L.length) from own_later O5.out hb6)
    have hs6 := Nat.le_trans hs5 hb6.size
    have E1 := Lib.hid ((K5.out.below (hb6.mono hs5)).up hs6)
    have E2 := Lib.hid (show Lies w6 w6.heap.size 1 (some ⟨g6, 0, none⟩) L.length (strs L) from Lies.of_own ho6)
    clear hb6 ho6 O5 K5
    go_wp2_with fail
    refine (laws_eqStringS _ _ _ _ L _ E2.out E1.out (by omega)).mono ?_; rintro e w7 ⟨rfl, hd7⟩
    have hb7 := hd7.below w6.heap.size
    have B7 := Lib.hid (B6.out.trans (hb7.mono B6.out.size))
    have O7 := Lib.hid (show OwnStrs w7 w1.heap.size g L.length c (marks 1 L.length) from own_later O6.out hb7)
    clear hd7 hb7 E1 E2 O6
    go_wp2_with fail
    refine (laws_heldStringS w1.heap.size g L.length c _ O7.out (by omega)).mono ?_; rintro e w8 ⟨rfl, hb8⟩
    have B8 := Lib.hid (B7.out.trans (hb8.mono B7.out.size))
    clear hb8 O7
    go_wp2_with fail
    go_ret
    exact ⟨rfl, B8.out⟩
  · go_enter Try.func12, Try.ntmps12
    go_wp2_with fail
    go_ret
    exact ⟨rfl, Below.refl _ _⟩

theorem contract (H : Type) (enc : TypeId × Value → H) (W : World) (base : Nat) (args : Array Value) (ds gs : List (DataW H)) (before : List MemPlace)
    (hval0 : ∀ (j : Nat) t v, Try.f12.params[j]? = some t → args[j]? = some v → Value.okWide Try.prog W .any base t v)
    (hW : DataW.Whole enc Try.prog Try.f12.params.toList Rows.fnExactLinesSpec.vars false W args.toList ds gs before)
    (hsz0 : (DataW.weightsEach Try.prog (Try.f12.params.toList ++ Rows.fnExactLinesSpec.plain.varTypes Try.prog) (ds ++ gs)).all (· ≤ reachBytes) = true) :
    Calls Try.prog 12 args W fun e W' => ∃ v, e = .returned v ∧ Rows.fnExactLinesSpec.post enc Try.prog Try.f12 false true false false W args v W' := by
  have hval := hval0
  have hsz := hsz0
  clear hval0 hsz0
  have hW' := hW
  obtain ⟨p, q, hA0, hV, rfl, hfz, hnd⟩ := hW
  have hA : DataW.TrodAll enc Try.prog W 0 (fun _ => true) true Try.f12.params.toList args.toList ds p := hA0
  rw [Try.params12] at hA hval hsz
  obtain ⟨v0, vs0, d0, ds0, p0, q0, hargs, rfl, rfl, h0, r0x⟩ := trodAll_cons hA
  obtain ⟨rfl, rfl, rfl⟩ := trodAll_nil r0x
  obtain rfl : args = #[v0] := by cases args; simp_all
  obtain ⟨rfl, rfl⟩ := trodVars_none hV
  obtain ⟨a0, rfl, rfl, rfl, x0⟩ := open_string Try.underlying9 (hval 0 9 v0 rfl rfl) h0
  clear hA0
  have w0 : a0.size ≤ 140737488351232 := by have := sized_string hsz (j := 0) (t := 9) rfl rfl; simpa [reachBytes] using this
  refine (walk a0 W w0).mono fun e W' ⟨he, bel⟩ => ?_
  subst he
  exact ⟨_, rfl, _, _, _, [], _, [], hW', trodAll_mk1 (shut_bool Try.underlying4 _), (trodAll_cons_mk (shut_string Try.underlying9 x0) trodAll_mk0), rfl, bel.frame _, fun h => by cases h⟩

set_option maxRecDepth 100000 in
theorem lifted (os : Os) (started : os.Started) (H : Type) (enc : TypeId × Value → H) :
    ReturnsInHanded {} Try.checked os 12 .any (Rows.fnExactLinesSpec.pre6 enc Try.prog Try.f12 Rows.fnExactLinesRow.domain false) (Rows.fnExactLinesSpec.post enc Try.prog Try.f12 false true false false) := by
  refine returnsInHanded_of_change_sized (C := Try.checked) own started (by kernel_rfl) Try.func12
    (ChangeSpec.witness6 (enc := enc) (C := Try.checked) false ⟨#[], #[.string ByteArray.empty], []⟩ 8 (by kernel_rfl) (by kernel_rfl) (by kernel_rfl) (by kernel_rfl)) ?_
  intro W base args ds gs before hval0 hW hcnd hsz0 _
  exact contract H enc W base args ds gs before hval0 hW hsz0

theorem proved : Rows.FnExactLinesSaid :=
  OpenClaim.holds_of_wide 12 Try.f12 rfl rfl rfl rfl rfl rfl rfl ⟨rfl, rfl, rfl, rfl, rfl⟩ rfl rfl rfl rfl rfl (by kernel_rfl) Try.func12 (by kernel_rfl)
    (of_decide_eq_true (by kernel_rfl)) (by unfold Func.isWrapper; first | (rw [if_pos (by decide +kernel)]; kernel_rfl) | (rw [if_neg (by decide +kernel)]; exact ⟨rfl, rfl⟩))
    (fun os started H enc _ => lifted os started H enc)
#print axioms proved
end Go.Proofs.Ytmfjmikiebijgaa.fnExactLines
