/-
  For every text and test the law FnExactTrimFunc returns true and changes nothing: strings.TrimFunc answers as the reference does. No condition.
-/
import Derived.Test.YtehjbmijbgonkaaDoorCards
import Derived.Test.YtehjbmijbgonkaaDoorTie
import Derived.Test.YtehjbmijbgonkaaDoorTabs
import Derived.Test.YtehjbmijbgonkaaDoorLastF
import Derived.Test.YtehjbmijbgonkaaDoorLastS
import Derived.Test.YtehjbmijbgonkaaDoorExact
import Derived.Deep.RegionHeld3
import Derived.WalkKit
import Derived.ProofKit
import Derived.OpenShut
import Derived.ShutString
import Derived.ChangeOld
import Derived.Below
import Derived.SizedLaws
import Derived.Lib.SmallJoins
import Derived.Deep.CondSized
import Derived.Deep.DeepHandedRow
import Derived.Deep.DeepWitnessRowRef
namespace Go.Proofs.YtehjbmijbgonkaaDoor.fnExactTrimFunc
open Go.ChangeShapes Go.WideShapes Go.ChangeAt Go.RowKit Go.Joins
open Go.ChangeMaps (open_string shut_string)
set_option linter.unusedVariables false

theorem own : ownKnob Tryd.prog.godebug = none := by kernel_rfl
theorem laidOut : laidOutB Tryd.prog = true := by kernel_rfl
theorem sized_test {H : Type} {ts : List TypeId} {ds : List (DataW H)} (h : (DataW.weightsEach Tryd.prog ts ds).all (· ≤ reachBytes) = true) {j : Nat} {t : TypeId} {elems spare : List (DataW H)} {d : DataW H} (ht : ts[j]? = some t) (hd : ds[j]? = some (.agg [.slice elems spare, d])) (htt : t = 24 := by rfl) :
    (elems.length + spare.length) * 4 ≤ 140737488351232 := by
  subst htt
  have := List.all_eq_true.1 h _ (DataW.weights_mem_each ht hd ((elems.length + spare.length) * Tryd.prog.bytesOf 21) (by simp [DataW.weights, DataW.weightsEach, Tryd.underlying24, Tryd.underlying22]))
  rw [show Tryd.prog.bytesOf 21 = 4 by kernel_rfl] at this
  exact of_decide_eq_true this
set_option maxHeartbeats 1000000 in
theorem walk (a0 : ByteArray) (a1 : Option Addr) (len1 cap1 : Nat) (z1 : List Int) (b1 : Bool) (w : World) (w0 : a0.size ≤ 140737488351232) (w1 : IsRow .i32 w a1 len1 cap1 z1) (r1 : cap1 ≤ 35184372087808) (hT : Tabs w) :
    Calls Tryd.prog 6 #[.string a0, .agg #[.slice a1 len1 cap1, .bool b1]] w fun e w' => e = .returned (.bool true) ∧ Below w.heap.size w w' := by
  have HT := Lib.hid hT; clear hT
  have hl := w1.lies
  have hle := w1.le
  generalize hzz : z1.take len1 = zs at *
  have hl' : Lies w w.heap.size 1 a1 len1 (ints zs) := hl
  obtain rfl : zs.length = len1 := by have := hl'.1; simpa [ints] using this
  clear hl hzz w1
  have hb0 : Below w.heap.size w (w.alloc (.cells #[.slice a1 zs.length cap1, .bool b1] 24)) := (Below.refl _ w).alloc (Nat.le_refl _) _
  have HB0 := Lib.hid hb0
  have HL := Lib.hid hl'
  clear hb0 hl'
  by_cases h1 : a0.size ≤ 1048576
  · by_cases h2 : zs.length ≤ 1048576
    · have hlen : zs.length ≤ 35184372088832 := by omega
      go_enter Tryd.func6, Tryd.ntmps6
      go_wp2_with fail
      refine (laws_szTest_yes _ _ _ _ _ h2).mono ?_; rintro e w1 ⟨rfl, hb1⟩
      have B1 := Lib.hid (HB0.out.trans (hb1.mono (by simp)))
      have x0 : w1.cell? ⟨w.heap.size, 0, none⟩ = some (.slice a1 zs.length cap1) := by rw [hb1.cell (p := ⟨w.heap.size, 0, none⟩) (by simp), World.cell?_alloc_at _ _ _ _ rfl]; rfl
      have x1 : w1.cell? ⟨w.heap.size, 1, none⟩ = some (.bool b1) := by rw [hb1.cell (p := ⟨w.heap.size, 1, none⟩) (by simp), World.cell?_alloc_at _ _ _ _ rfl]; rfl
      have s1 : w.heap.size < w1.heap.size := by have := hb1.size; simp at this; omega
      clear hb1
      go_wp2_with fail
      refine (laws_toTest _ _ _ zs _ _ (HL.out.later B1.out) hlen).mono ?_; rintro e w2 ⟨a2, cap2, rfl, hl2, hb2⟩
      have B2 := Lib.hid (B1.out.trans (hb2.mono B1.out.size))
      have L2 := Lib.hid hl2
      replace x0 := (hb2.cell (p := ⟨w.heap.size, 0, none⟩) s1).trans x0
      replace x1 := (hb2.cell (p := ⟨w.heap.size, 1, none⟩) s1).trans x1
      replace s1 := Nat.lt_of_lt_of_le s1 hb2.size
      clear hb2 hl2
      go_wp2_with fail
      refine (spec_TrimFunc _ _ _ zs _ _ _ (by omega) L2.out (by omega)).mono ?_; rintro e w3 ⟨rfl, hb3⟩
      have B3 := Lib.hid (B2.out.trans (hb3.mono B2.out.size))
      replace x0 := (hb3.cell (p := ⟨w.heap.size, 0, none⟩) s1).trans x0
      replace x1 := (hb3.cell (p := ⟨w.heap.size, 1, none⟩) s1).trans x1
      replace s1 := Nat.lt_of_lt_of_le s1 hb3.size
      clear hb3
      go_wp2_with fail
      refine (laws_toTest _ _ _ zs _ _ (HL.out.later B3.out) hlen).mono ?_; rintro e w4 ⟨a4, cap4, rfl, hl4, hb4⟩
      have B4 := Lib.hid ((B3.out.trans (hb4.mono B3.out.size)).alloc (B3.out.trans (hb4.mono B3.out.size)).size (.cells #[.slice a4 zs.length cap4, .bool b1] 27))
      have L4 := Lib.hid (hl4.later ((Below.refl _ w4).alloc (Nat.le_refl _) (.cells #[.slice a4 zs.length cap4, .bool b1] 27)))
      replace x0 := (hb4.cell (p := ⟨w.heap.size, 0, none⟩) s1).trans x0
      replace x1 := (hb4.cell (p := ⟨w.heap.size, 1, none⟩) s1).trans x1
      replace s1 := Nat.lt_of_lt_of_le s1 hb4.size
      clear hb4 hl4
      go_wp2_with fail
      refine (impl_TrimFunc _ _ _ zs _ _ _ (by omega) (HT.out.below B4.out) L4.out (by omega)).mono ?_; rintro e w5 ⟨rfl, hb5⟩
      have B5 := Lib.hid (B4.out.trans (hb5.mono B4.out.size))
      have L5 := Lib.hid (show Lies w5.drew w5.drew.heap.size 1 a4 zs.length (ints zs) from L4.out.later hb5.drew)
      have y0 : w5.cell? ⟨w.heap.size, 0, none⟩ = some (.slice a1 zs.length cap1) := by rw [hb5.cell (p := ⟨w.heap.size, 0, none⟩) (by simp; omega), World.cell?_alloc_past _ _ _ s1]; exact x0
      have y1 : w5.cell? ⟨w.heap.size, 1, none⟩ = some (.bool b1) := by rw [hb5.cell (p := ⟨w.heap.size, 1, none⟩) (by simp; omega), World.cell?_alloc_past _ _ _ s1]; exact x1
      have z0 : w5.cell? ⟨w4.heap.size, 0, none⟩ = some (.slice a4 zs.length cap4) := by rw [hb5.cell (p := ⟨w4.heap.size, 0, none⟩) (by simp), World.cell?_alloc_at _ _ _ _ rfl]; rfl
      have z1 : w5.cell? ⟨w4.heap.size, 1, none⟩ = some (.bool b1) := by rw [hb5.cell (p := ⟨w4.heap.size, 1, none⟩) (by simp), World.cell?_alloc_at _ _ _ _ rfl]; rfl
      have s5 : w4.heap.size < w5.heap.size := by have := hb5.size; simp at this; omega
      clear hb5 x0 x1
      go_wp2_with fail
      go_region_held3 (fun w' => w'.cell? ⟨w.heap.size, 0, none⟩ = some (.slice a1 zs.length cap1) ∧ w'.cell? ⟨w.heap.size, 1, none⟩ = some (.bool b1) ∧ w'.cell? ⟨w4.heap.size, 0, none⟩ = some (.slice a4 zs.length cap4) ∧ w'.cell? ⟨w4.heap.size, 1, none⟩ = some (.bool b1))
        (first | go_keep | exact ⟨(hb6.cell (p := ⟨w.heap.size, 0, none⟩) (Nat.lt_trans s1 s5)).trans y0, (hb6.cell (p := ⟨w.heap.size, 1, none⟩) (Nat.lt_trans s1 s5)).trans y1, (hb6.cell (p := ⟨w4.heap.size, 0, none⟩) s5).trans z0, (hb6.cell (p := ⟨w4.heap.size, 1, none⟩) s5).trans z1⟩ | exact ⟨(hb7.cell (p := ⟨w.heap.size, 0, none⟩) (Nat.lt_of_lt_of_le (Nat.lt_trans s1 s5) hb6.size)).trans ((hb6.cell (p := ⟨w.heap.size, 0, none⟩) (Nat.lt_trans s1 s5)).trans y0), (hb7.cell (p := ⟨w.heap.size, 1, none⟩) (Nat.lt_of_lt_of_le (Nat.lt_trans s1 s5) hb6.size)).trans ((hb6.cell (p := ⟨w.heap.size, 1, none⟩) (Nat.lt_trans s1 s5)).trans y1), (hb7.cell (p := ⟨w4.heap.size, 0, none⟩) (Nat.lt_of_lt_of_le s5 hb6.size)).trans ((hb6.cell (p := ⟨w4.heap.size, 0, none⟩) s5).trans z0), (hb7.cell (p := ⟨w4.heap.size, 1, none⟩) (Nat.lt_of_lt_of_le s5 hb6.size)).trans ((hb6.cell (p := ⟨w4.heap.size, 1, none⟩) s5).trans z1)⟩)
        (first | (go_at_call 11; refine (laws_toTest a1 zs.length cap1 zs b1 _ (by exact HL.out.later B5.out.drew) hlen).mono ?_; rintro e w6 ⟨a6, cap6, rfl, hl6, hb6⟩) | (go_at_call 13; refine (laws_eqTest _ _ _ _ _ zs _ _ (L5.out.later hb6) hl6 (by omega)).mono ?_; rintro e w7 ⟨rfl, hb7⟩))
      have B7 := Lib.hid (B5.out.drew.trans ((hb6.mono B5.out.size).trans (hb7.mono (Nat.le_trans B5.out.size hb6.size))))
      clear hb6 hb7 hl6 y0 y1 z0 z1
      go_wp2_with fail
      go_ret
      exact ⟨rfl, B7.out⟩
    · go_enter Tryd.func6, Tryd.ntmps6
      go_wp2_with fail
      refine (laws_szTest_no _ _ _ _ _ (by omega) (by omega)).mono ?_; rintro e w1 ⟨rfl, hb1⟩
      have B1 := Lib.hid (HB0.out.trans (hb1.mono (by simp)))
      clear hb1
      go_wp2_with fail
      go_ret
      exact ⟨rfl, B1.out⟩
  · go_enter Tryd.func6, Tryd.ntmps6
    go_wp2_with fail
    go_ret
    exact ⟨rfl, HB0.out⟩

theorem contract (H : Type) (enc : TypeId × Value → H) (W : World) (base : Nat) (args : Array Value) (ds gs : List (DataW H)) (before : List MemPlace)
    (hval0 : ∀ (j : Nat) t v, Tryd.f6.params[j]? = some t → args[j]? = some v → Value.okWide Tryd.prog W .any base t v)
    (hW : DataW.Whole enc Tryd.prog Tryd.f6.params.toList Rows.fnExactTrimFuncSpec.vars false W args.toList ds gs before)
    (hsz0 : (DataW.weightsEach Tryd.prog (Tryd.f6.params.toList ++ Rows.fnExactTrimFuncSpec.plain.varTypes Tryd.prog) (ds ++ gs)).all (· ≤ reachBytes) = true) (hL : laidMetH Tryd.prog Rows.fnExactTrimFuncRow.laid W) :
    Calls Tryd.prog 6 args W fun e W' => ∃ v, e = .returned v ∧ Rows.fnExactTrimFuncSpec.post enc Tryd.prog Tryd.f6 false true false false W args v W' := by
  have hval := hval0
  have hsz := hsz0
  clear hval0 hsz0
  have hW' := hW
  obtain ⟨p, q, hA0, hV, rfl, hfz, hnd⟩ := hW
  have hA : DataW.TrodAll enc Tryd.prog W 0 (fun _ => true) true Tryd.f6.params.toList args.toList ds p := hA0
  rw [Tryd.params6] at hA hval hsz
  obtain ⟨v0, vs0, d0, ds0, p0, q0, hargs, rfl, rfl, h0, r0x⟩ := trodAll_cons hA
  obtain ⟨v1, vs1, d1, ds1, p1, q1, rfl, rfl, rfl, h1, r1x⟩ := trodAll_cons r0x
  obtain ⟨rfl, rfl, rfl⟩ := trodAll_nil r1x
  obtain rfl : args = #[v0, v1] := by cases args; simp_all
  obtain ⟨rfl, rfl⟩ := trodVars_none hV
  obtain ⟨a0, rfl, rfl, rfl, x0⟩ := open_string Tryd.underlying9 (hval 0 9 v0 rfl rfl) h0
  have k1 := h1
  have lt1 : ∀ x ∈ p1, x.block < W.heap.size := by obtain ⟨m, hm⟩ := k1; exact DataW.trod_lt m _ _ _ hm
  obtain ⟨c0, c1, y0, y1, fuel1, rfl, rfl, rfl, hy0, hy1⟩ := open_agg2 Tryd.underlying24 (by kernel_rfl) (by kernel_rfl) (hval 1 24 v1 rfl rfl) h1
  obtain ⟨b1, eb, rfl⟩ := DataW.trod_bool Tryd.underlying4 hy1
  simp only [List.cons.injEq, and_true] at eb
  subst eb
  obtain ⟨a1, len1, cap1, z1, rfl, w1, r1⟩ : ∃ a l c zs, c0 = .slice a l c ∧ IsRow .i32 W a l c zs ∧ c ≤ 35184372087808 := by
    rcases open_ints Tryd.underlying22 Tryd.underlying21 (by kernel_rfl) hy0 with ⟨hcs, _⟩ | ⟨x, l, c, zs, hcs, _, hl, hm, hz, hd, hcell, hwz⟩
    · simp only [List.cons.injEq, and_true] at hcs
      exact ⟨_, _, _, [], hcs, .inl ⟨rfl, rfl, rfl, rfl⟩, by omega⟩
    · simp only [List.cons.injEq, and_true] at hcs
      simp only [if_true] at hz
      refine ⟨_, _, _, zs, hcs, .inr ⟨_, rfl, hl, hm, hz, hcell, hwz⟩, ?_⟩
      subst hd
      have hb := sized_test hsz (j := 1) (t := 24) rfl rfl
      simp [lits] at hb
      omega
  clear hA0
  have w0 : a0.size ≤ 140737488351232 := by have := sized_string hsz (j := 0) (t := 9) rfl rfl; simpa [reachBytes] using this
  refine (walk a0 a1 len1 cap1 z1 b1 W w0 w1 r1 (tabs_of hL (by unfold Rows.fnExactTrimFuncRow; simp) (by unfold Rows.fnExactTrimFuncRow; simp))).mono fun e W' ⟨he, bel⟩ => ?_
  subst he
  exact ⟨_, rfl, _, _, _, [], _, [], hW', trodAll_mk1 (shut_bool Tryd.underlying4 _), (trodAll_cons_mk (shut_string Tryd.underlying9 x0) (trodAll_cons_mk (Below.trod laidOut (by kernel_rfl) (of_decide_eq_true (by kernel_rfl)) k1 bel lt1) trodAll_mk0)), rfl, bel.frame _, fun h => by cases h⟩

theorem laid_met (os : Os) : laidMet Tryd.prog Rows.fnExactTrimFuncRow.laid ((laidWorld os).forCall (fun _ _ => 0) ⟨#[], #[.string ByteArray.empty, .agg #[.slice none 0 0, .bool false]], []⟩).memory :=
  laidMet_of_run' 8 (by kernel_rfl) (by kernel_rfl)
theorem reads (os : Os) {H : Type} (enc : TypeId × Value → H) : ∃ places, DataW.whole enc Tryd.prog ((laidWorld os).forCall (fun _ _ => 0) ⟨#[], #[.string ByteArray.empty, .agg #[.slice none 0 0, .bool false]], []⟩).memory Tryd.f6.params.toList Rows.fnExactTrimFuncSpec.vars false (#[.string ByteArray.empty, .agg #[.slice none 0 0, .bool false]] : Array Value).toList 8 = some ([.lit (.string []), .agg [.nil, .lit (.bool false)]], [], places) :=
  ⟨[], by kernel_rfl⟩
set_option maxRecDepth 100000 in
theorem lifted (os : Os) (started : os.Started) (H : Type) (enc : TypeId × Value → H) (F : Stop.Interp) :
    ReturnsInHanded {} Tryd.checked os 6 .any ((OpenSpec.ofChange Rows.fnExactTrimFuncSpec).preRow enc Tryd.prog Tryd.f6 Rows.fnExactTrimFuncRow.domain false Rows.fnExactTrimFuncRow.laid) (((OpenSpec.ofChange Rows.fnExactTrimFuncSpec).at F).post enc Tryd.prog Tryd.f6 false true false false) := by
  obtain ⟨places, hx⟩ := reads os enc
  refine returnsInHanded_of_row (C := Tryd.checked) (s := OpenSpec.ofChange Rows.fnExactTrimFuncSpec) own started (by kernel_rfl) Tryd.func6
    (witness_row_at (enc := enc) (C := Tryd.checked) false (laidWorld os) #[.string ByteArray.empty, .agg #[.slice none 0 0, .bool false]] rfl (by kernel_rfl) (by kernel_rfl) (by kernel_rfl)
      (OpenSpec.preRow_of_cond 8 hx (by kernel_rfl) (fun k hk => by cases hk) (by kernel_rfl) (laid_met os))) ?_
  intro W base args ds gs before hval0 hW _ hcond hsz0 hL _ _
  exact contract H enc W base args ds gs before hval0 hW hsz0 hL

theorem said : Rows.FnExactTrimFuncSaid :=
  OpenClaim.holds_of_cond 6 Tryd.f6 rfl rfl rfl rfl rfl rfl rfl ⟨rfl, rfl, rfl, rfl, rfl⟩ rfl rfl rfl rfl rfl (by kernel_rfl) Tryd.func6 (by kernel_rfl)
    (of_decide_eq_true (by kernel_rfl)) (by unfold Func.isWrapper; first | (rw [if_pos (by decide +kernel)]; kernel_rfl) | (rw [if_neg (by decide +kernel)]; exact ⟨rfl, rfl⟩))
    (fun os started H enc _ F => by rw [OpenClaim.pre_eq_preRow]; exact lifted os started H enc F)

theorem plain (f : FuncId) (fn : Func) (hf : Tryd.pinned.checked.prog.funcNamed Rows.fnExactTrimFuncRow.func = some f) (hfn : Tryd.pinned.checked.prog.funcs[f]? = some fn) :
    false = Tryd.pinned.checked.prog.looks [] ∧ ∀ (j : Nat) t, fn.params[j]? = some t → Tryd.pinned.checked.prog.wantsStandIn t = false := by
  obtain rfl : f = 6 := Option.some.inj ((show Tryd.prog.funcNamed Rows.fnExactTrimFuncRow.func = some 6 by kernel_rfl).symm.trans hf) |>.symm
  obtain rfl : fn = Tryd.f6 := (Option.some.inj (Tryd.func6.symm.trans hfn)).symm
  refine ⟨by kernel_rfl, fun j t ht => ?_⟩
  rw [Tryd.params6] at ht
  have hm := Array.mem_of_getElem? ht
  simp only [List.mem_toArray, List.mem_cons, List.mem_nil_iff, or_false] at hm
  rcases hm with rfl | rfl
  · exact (show Tryd.prog.wantsStandIn 9 = false by kernel_rfl)
  · exact (show Tryd.prog.wantsStandIn 24 = false by kernel_rfl)

theorem proved : Rows.FnExactTrimFuncCardSaid :=
  Claim7.holds_tied_plain_at .later [] _ _ _ _ said (fun _ h => by cases h) (by kernel_rfl) (fun _ h => by cases h) fnExactTrimFunc_row_tie rfl ⟨rfl, rfl⟩ (by kernel_rfl) rfl plain (by kernel_rfl)
#print axioms proved
end Go.Proofs.YtehjbmijbgonkaaDoor.fnExactTrimFunc
