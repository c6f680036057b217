/-
  For every text and test the law FnExactFieldsFuncSeq returns true and changes nothing: strings.FieldsFuncSeq answers as the reference does. No condition.
-/
import Derived.Test.YtehjbmijbgonkaaDoorCards
import Derived.Test.YtehjbmijbgonkaaDoorTie
import Derived.Test.YtehjbmijbgonkaaDoorTabs
import Derived.Test.YtehjbmijbgonkaaDoorFieldsI
import Derived.Test.YtehjbmijbgonkaaDoorSeqIt
import Derived.Test.YtehjbmijbgonkaaDoorRuns2
import Derived.Test.YtehjbmijbgonkaaDoorStrs
import Derived.Deep.RegionHeld3
import Derived.WalkKit
import Derived.ProofKit
import Derived.OpenShut
import Derived.ShutString
import Derived.ChangeOld
import Derived.Below
import Derived.SizedLaws
import Derived.Lib.SmallJoins
import Derived.Deep.CondSized
import Derived.Deep.DeepHandedRow
import Derived.Deep.DeepWitnessRowRef
namespace Go.Proofs.YtehjbmijbgonkaaDoor.fnExactFieldsFuncSeq
open Go.ChangeShapes Go.WideShapes Go.ChangeAt Go.RowKit Go.Joins
open Go.ChangeMaps (open_string shut_string)
set_option linter.unusedVariables false

theorem own : ownKnob Tryd.prog.godebug = none := by kernel_rfl
theorem laidOut : laidOutB Tryd.prog = true := by kernel_rfl
theorem sized_test {H : Type} {ts : List TypeId} {ds : List (DataW H)} (h : (DataW.weightsEach Tryd.prog ts ds).all (· ≤ reachBytes) = true) {j : Nat} {t : TypeId} {elems spare : List (DataW H)} {d : DataW H} (ht : ts[j]? = some t) (hd : ds[j]? = some (.agg [.slice elems spare, d])) (htt : t = 24 := by rfl) :
    (elems.length + spare.length) * 4 ≤ 140737488351232 := by
  subst htt
  have := List.all_eq_true.1 h _ (DataW.weights_mem_each ht hd ((elems.length + spare.length) * Tryd.prog.bytesOf 21) (by simp [DataW.weights, DataW.weightsEach, Tryd.underlying24, Tryd.underlying22]))
  rw [show Tryd.prog.bytesOf 21 = 4 by kernel_rfl] at this
  exact of_decide_eq_true this
set_option maxHeartbeats 1000000 in
theorem walk (a0 : ByteArray) (a1 : Option Addr) (len1 cap1 : Nat) (z1 : List Int) (b1 : Bool) (w : World) (w0 : a0.size ≤ 140737488351232) (w1 : IsRow .i32 w a1 len1 cap1 z1) (r1 : cap1 ≤ 35184372087808) (hT : Tabs w) :
    Calls Tryd.prog 8 #[.string a0, .agg #[.slice a1 len1 cap1, .bool b1]] w fun e w' => e = .returned (.bool true) ∧ Below w.heap.size w w' := by
  have HT := Lib.hid hT; clear hT
  have hl := w1.lies
  have hle := w1.le
  generalize hzz : z1.take len1 = zs at *
  have hl' : Lies w w.heap.size 1 a1 len1 (ints zs) := hl
  obtain rfl : zs.length = len1 := by have := hl'.1; simpa [ints] using this
  clear hl hzz w1
  have hb0 : Below w.heap.size w (w.alloc (.cells #[.slice a1 zs.length cap1, .bool b1] 24)) := (Below.refl _ w).alloc (Nat.le_refl _) _
  have HB0 := Lib.hid hb0
  have HL := Lib.hid hl'
  clear hb0 hl'
  by_cases h1 : a0.size ≤ 1048576
  · by_cases h2 : zs.length ≤ 1048576
    · have hlen : zs.length ≤ 35184372088832 := by omega
      go_enter Tryd.func8, Tryd.ntmps8
      go_wp2_with fail
      refine (laws_szTest_yes _ _ _ _ _ h2).mono ?_; rintro e w1 ⟨rfl, hb1⟩
      have B1 := Lib.hid (HB0.out.trans (hb1.mono (by simp)))
      have p1 := (hb1.block w.heap.size (by simp)).trans (heap_alloc_new w (.cells #[.slice a1 zs.length cap1, .bool b1] 24))
      have HP1 := Lib.hid p1
      obtain ⟨x0, x1⟩ := two_cells p1
      clear hb1 p1
      go_wp2_with fail
      refine (laws_toTest _ _ _ zs _ _ (HL.out.later B1.out) hlen).mono ?_; rintro e w2 ⟨a2, cap2, rfl, hl2, hb2⟩
      have B2 := Lib.hid (B1.out.trans (hb2.mono B1.out.size))
      have L2 := Lib.hid hl2
      have HP2 := Lib.hid ((hb2.block _ (heap_lt HP1.out)).trans HP1.out)
      clear hb2 hl2 x0 x1 HP1
      go_wp2_with fail
      generalize hL : fieldsP (fun x => holdB zs b1 x) a0 = L at *
      have hLn : L.length ≤ 1048576 := by rw [← hL]; exact Nat.le_trans (fieldsP_len _ _) h1
      have cS := fun (w : World) (h : Lies w w.heap.size 1 a2 zs.length (ints zs)) => spec_FieldsFuncSeq a2 zs.length cap2 zs b1 a0 w (by omega) h (by omega)
      have cI := fun (a : Option Addr) (cap : Nat) (W : World) (hb : Below w.heap.size w W) (h : Lies W W.heap.size 1 a zs.length (ints zs)) => impl_FieldsFuncSeq a zs.length cap zs b1 a0 W (by omega) (HT.out.below hb) h (by omega)
      rw [hL] at cS cI
      have CI := Lib.hid cI; have CS := Lib.hid cS
      clear cS cI hL
      refine (CS.out _ L2.out).mono ?_; rintro e w3 ⟨g3, c3, rfl, ho3, hb3⟩
      have B3 := Lib.hid (B2.out.trans (hb3.mono B2.out.size))
      have O3 := Lib.hid ho3
      have p3 := (hb3.block _ (heap_lt HP2.out)).trans HP2.out
      have HP3 := Lib.hid p3
      obtain ⟨x0, x1⟩ := two_cells p3
      have hPg : w.heap.size < g3 := Nat.lt_of_lt_of_le (heap_lt HP2.out) (ho3.lt _ rfl).1
      have hg3 : g3 < w3.heap.size := (ho3.lt _ rfl).2
      clear hb3 ho3 HP2 p3
      go_wp2_with fail
      refine (laws_toTest_own _ _ _ zs _ _ (HL.out.later B3.out) hlen).mono ?_; rintro e w4 ⟨a4, cap4, rfl, ho4, hb4⟩
      obtain ⟨wa, hwa⟩ : ∃ wa, w4.alloc (.cells #[.slice a4 zs.length cap4, .bool b1] 27) = wa := ⟨_, rfl⟩
      have hxa : wa.heap[w4.heap.size]? = some (.cells #[.slice a4 zs.length cap4, .bool b1] 27) := by rw [← hwa]; exact heap_alloc_new w4 _
      have hba : Below w4.heap.size w4 wa := by rw [← hwa]; exact (Below.refl _ w4).alloc (Nat.le_refl _) _
      have hb4a := hb4.trans (hba.mono hb4.size)
      have HK := Lib.hid (show Keeps w.heap.size w4.heap.size g3 c3 w2.heap.size (.cells #[.slice a1 zs.length cap1, .bool b1] 24) (.cells #[.slice a4 zs.length cap4, .bool b1] 27) L wa from ⟨(hb4a.block _ (heap_lt HP3.out)).trans HP3.out, hxa, own_blk O3.out (hb4a.block _ hg3)⟩)
      have B4 := Lib.hid (B3.out.trans (hb4a.mono B3.out.size))
      have O4 := Lib.hid (own_later ho4 hba)
      have L4 := Lib.hid (show Lies wa wa.heap.size 1 a4 zs.length (ints zs) from Lies.of_own (own_later ho4 hba))
      have hX4 : ∀ q, (Value.slice a4 zs.length cap4).ownBlock = some q → w3.heap.size ≤ q ∧ q < w4.heap.size := fun q h => ho4.lt q h
      have HX4 := Lib.hid hX4
      have hsa : w4.heap.size < wa.heap.size := heap_lt hxa
      clear hX4 hb4a ho4 hba HP3 x0 x1
      obtain ⟨y0, y1⟩ := two_cells hxa
      clear hxa
      go_wp2_with fail
      clear hwa y0 y1
      refine (CI.out _ _ _ B4.out L4.out).mono ?_; rintro e w5 ⟨g5, c5, rfl, ho5, hb5⟩
      have B5 := Lib.hid (B4.out.trans (hb5.mono B4.out.size))
      have K5 := Lib.hid (HK.out.later hb5)
      have O4' := Lib.hid (own_later O4.out hb5)
      have O5 := Lib.hid ho5
      have hg5 : wa.heap.size ≤ g5 := (ho5.lt _ rfl).1
      have E3 := Lib.hid (show Lies w5 w5.heap.size 1 (some ⟨g3, 0, none⟩) L.length (strs L) from Lies.of_own K5.out.o)
      have E5 := Lib.hid (show Lies w5 w5.heap.size 1 (some ⟨g5, 0, none⟩) L.length (strs L) from Lies.of_own ho5)
      clear hb5 ho5 O4 HK
      go_wp2_with fail
      refine (laws_eqStringS _ _ _ _ L _ E5.out E3.out (by omega)).mono ?_; rintro e w6 ⟨rfl, hd6⟩
      have hb6 := hd6.below w5.heap.size
      have B6 := Lib.hid (B5.out.trans (hb6.mono B5.out.size))
      have K6 := Lib.hid (K5.out.later hb6)
      have O46 := Lib.hid (own_later O4'.out hb6)
      have O56 := Lib.hid (own_later O5.out hb6)
      clear hd6 hb6 K5 O4' O5 E3 E5
      obtain ⟨y0, y1⟩ := two_cells K6.out.x
      obtain ⟨x0, x1⟩ := two_cells K6.out.p
      have L6 := Lib.hid (show Lies w6.drew w6.drew.heap.size 1 a4 zs.length (ints zs) from Lies.of_own (own_later O46.out ((Below.refl _ w6).drew)))
      go_wp2_with fail
      go_region_held3 (fun w' => w'.cell? ⟨w.heap.size, 0, none⟩ = some (.slice a1 zs.length cap1) ∧ w'.cell? ⟨w.heap.size, 1, none⟩ = some (.bool b1) ∧ w'.cell? ⟨w4.heap.size, 0, none⟩ = some (.slice a4 zs.length cap4) ∧ w'.cell? ⟨w4.heap.size, 1, none⟩ = some (.bool b1))
        (first | go_keep | exact K7.out.cells | exact K8.out.cells)
        (first | (go_at_call 11; refine (laws_toTest a1 zs.length cap1 zs b1 _ (by exact HL.out.later B6.out.drew) hlen).mono ?_; rintro e w7 ⟨a7, cap7, rfl, hl7, hb7⟩; have K7 := Lib.hid (K6.out.later (Below.trans ((Below.refl _ w6).drew) hb7))) | (go_at_call 13; refine (laws_eqTest _ _ _ _ _ zs _ _ (L6.out.later hb7) hl7 (by omega)).mono ?_; rintro e w8 ⟨rfl, hb8⟩; have K8 := Lib.hid (K7.out.later hb8)))
      have hb68 : Below w6.heap.size w6 w8 := Below.trans ((Below.refl _ w6).drew) (hb7.trans (hb8.mono hb7.size))
      have B8 := Lib.hid (B6.out.trans (hb68.mono B6.out.size))
      have O48 := Lib.hid (own_later O46.out hb68)
      have O58 := Lib.hid (own_later O56.out hb68)
      clear hb7 hb8 hl7 K7 K6 y0 y1 x0 x1 hb68 L6 O46 O56
      obtain ⟨y0, y1⟩ := two_cells K8.out.x
      obtain ⟨x0, x1⟩ := two_cells K8.out.p
      go_wp2_with fail
      have hPw : w.heap.size < w3.heap.size := Nat.lt_trans hPg hg3
      have h34 : w3.heap.size ≤ w4.heap.size := hb4.size
      refine (laws_markTest _ _ _ zs _ _ O48.out h2).mono ?_; rintro e w9 ⟨rfl, hg9⟩
      have K9 := Lib.hid (K8.out.at (hg9.block _ (heap_lt K8.out.p) (fun h => by have := HX4.out _ h.symm; omega)) (hg9.block _ (heap_lt K8.out.x) (fun h => by have := HX4.out _ h.symm; omega)) (hg9.block _ (K8.out.o.lt _ rfl).2 (fun h => by have := HX4.out _ h.symm; omega)))
      have O59 := Lib.hid (O58.out.kept hg9 (own_apart O58.out O48.out (by decide)))
      have B9 := Lib.hid (B8.out.grown hg9 B8.out.size (fun q h => by have := HX4.out _ h; omega))
      have E3 := Lib.hid (show Lies w9 w9.heap.size 1 (some ⟨g3, 0, none⟩) L.length (strs L) from Lies.of_own K9.out.o)
      have E5 := Lib.hid (show Lies w9 w9.heap.size 1 (some ⟨g5, 0, none⟩) L.length (strs L) from Lies.of_own O59.out)
      clear hg9 y0 y1 x0 x1 O48 K8 O58 HX4 hb4
      go_wp2_with fail
      refine (laws_eqStringS _ _ _ _ L _ E5.out E3.out (by omega)).mono ?_; rintro e wb ⟨rfl, hdb⟩
      have hbb := hdb.below w9.heap.size
      have Bb := Lib.hid (B9.out.trans (hbb.mono B9.out.size))
      have Kb := Lib.hid (K9.out.later hbb)
      have O5b := Lib.hid (own_later O59.out hbb)
      clear hdb hbb K9 O59 E3 E5
      go_wp2_with fail
      have hsb : wa.heap.size ≤ wb.heap.size := Nat.le_trans (O5b.out.lt _ rfl).1 (Nat.le_of_lt (O5b.out.lt _ rfl).2)
      refine (laws_markStringS wa.heap.size g5 L.length c5 L _ O5b.out (by omega) hsb).mono ?_; rintro e wc ⟨rfl, hoc, hbc⟩
      have Kc := Lib.hid (Kb.out.under hbc (by omega) (by omega) (by omega))
      have Bc := Lib.hid (Bb.out.trans (hbc.mono (by omega)))
      have Oc := Lib.hid hoc
      clear hoc hbc Kb O5b
      go_wp2_with fail
      refine (laws_heldStringS wa.heap.size g5 L.length c5 _ Oc.out (by omega)).mono ?_; rintro e wd ⟨rfl, hbd⟩
      have Bd := Lib.hid (Bc.out.trans (hbd.mono Bc.out.size))
      have Kd := Lib.hid (Kc.out.later hbd)
      have Od := Lib.hid (show OwnStrs wd wa.heap.size g5 L.length c5 (marks 1 L.length) from own_later Oc.out hbd)
      obtain ⟨x0, x1⟩ := two_cells Kd.out.p
      clear hbd Kc Oc
      go_wp2_with fail
      refine (laws_toTest _ _ _ zs _ _ (HL.out.later Bd.out) hlen).mono ?_; rintro e we ⟨ae, cape, rfl, hle1, hbe⟩
      have Be := Lib.hid (Bd.out.trans (hbe.mono Bd.out.size))
      have Ke := Lib.hid (Kd.out.later hbe)
      have Oe := Lib.hid (show OwnStrs we wa.heap.size g5 L.length c5 (marks 1 L.length) from own_later Od.out hbe)
      have Le := Lib.hid hle1
      clear hbe hle1 Kd Od x0 x1
      go_wp2_with fail
      refine (CI.out _ _ _ Be.out Le.out).mono ?_; rintro e wf ⟨gf, cf, rfl, hof, hbf⟩
      have Bf := Lib.hid (Be.out.trans (hbf.mono Be.out.size))
      have Kf := Lib.hid (Ke.out.later hbf)
      have Of := Lib.hid (show OwnStrs wf wa.heap.size g5 L.length c5 (marks 1 L.length) from own_later Oe.out hbf)
      have E3 := Lib.hid (show Lies wf wf.heap.size 1 (some ⟨g3, 0, none⟩) L.length (strs L) from Lies.of_own Kf.out.o)
      have Ef := Lib.hid (show Lies wf wf.heap.size 1 (some ⟨gf, 0, none⟩) L.length (strs L) from Lies.of_own hof)
      clear hof hbf Ke Oe Kf
      go_wp2_with fail
      refine (laws_eqStringS _ _ _ _ L _ Ef.out E3.out (by omega)).mono ?_; rintro e wg ⟨rfl, hdg⟩
      have hbg := hdg.below wf.heap.size
      have Bg := Lib.hid (Bf.out.trans (hbg.mono Bf.out.size))
      have Og := Lib.hid (show OwnStrs wg wa.heap.size g5 L.length c5 (marks 1 L.length) from own_later Of.out hbg)
      clear hdg hbg Of E3 Ef
      go_wp2_with fail
      refine (laws_heldStringS wa.heap.size g5 L.length c5 _ Og.out (by omega)).mono ?_; rintro e wh ⟨rfl, hbh⟩
      have Bh := Lib.hid (Bg.out.trans (hbh.mono Bg.out.size))
      clear hbh Og
      go_wp2_with fail
      go_ret
      exact ⟨rfl, Bh.out⟩
    · go_enter Tryd.func8, Tryd.ntmps8
      go_wp2_with fail
      refine (laws_szTest_no _ _ _ _ _ (by omega) (by omega)).mono ?_; rintro e w1 ⟨rfl, hb1⟩
      have B1 := Lib.hid (HB0.out.trans (hb1.mono (by simp)))
      clear hb1
      go_wp2_with fail
      go_ret
      exact ⟨rfl, B1.out⟩
  · go_enter Tryd.func8, Tryd.ntmps8
    go_wp2_with fail
    go_ret
    exact ⟨rfl, HB0.out⟩

theorem contract (H : Type) (enc : TypeId × Value → H) (W : World) (base : Nat) (args : Array Value) (ds gs : List (DataW H)) (before : List MemPlace)
    (hval0 : ∀ (j : Nat) t v, Tryd.f8.params[j]? = some t → args[j]? = some v → Value.okWide Tryd.prog W .any base t v)
    (hW : DataW.Whole enc Tryd.prog Tryd.f8.params.toList Rows.fnExactFieldsFuncSeqSpec.vars false W args.toList ds gs before)
    (hsz0 : (DataW.weightsEach Tryd.prog (Tryd.f8.params.toList ++ Rows.fnExactFieldsFuncSeqSpec.plain.varTypes Tryd.prog) (ds ++ gs)).all (· ≤ reachBytes) = true) (hL : laidMetH Tryd.prog Rows.fnExactFieldsFuncSeqRow.laid W) :
    Calls Tryd.prog 8 args W fun e W' => ∃ v, e = .returned v ∧ Rows.fnExactFieldsFuncSeqSpec.post enc Tryd.prog Tryd.f8 false true false false W args v W' := by
  have hval := hval0
  have hsz := hsz0
  clear hval0 hsz0
  have hW' := hW
  obtain ⟨p, q, hA0, hV, rfl, hfz, hnd⟩ := hW
  have hA : DataW.TrodAll enc Tryd.prog W 0 (fun _ => true) true Tryd.f8.params.toList args.toList ds p := hA0
  rw [Tryd.params8] at hA hval hsz
  obtain ⟨v0, vs0, d0, ds0, p0, q0, hargs, rfl, rfl, h0, r0x⟩ := trodAll_cons hA
  obtain ⟨v1, vs1, d1, ds1, p1, q1, rfl, rfl, rfl, h1, r1x⟩ := trodAll_cons r0x
  obtain ⟨rfl, rfl, rfl⟩ := trodAll_nil r1x
  obtain rfl : args = #[v0, v1] := by cases args; simp_all
  obtain ⟨rfl, rfl⟩ := trodVars_none hV
  obtain ⟨a0, rfl, rfl, rfl, x0⟩ := open_string Tryd.underlying9 (hval 0 9 v0 rfl rfl) h0
  have k1 := h1
  have lt1 : ∀ x ∈ p1, x.block < W.heap.size := by obtain ⟨m, hm⟩ := k1; exact DataW.trod_lt m _ _ _ hm
  obtain ⟨c0, c1, y0, y1, fuel1, rfl, rfl, rfl, hy0, hy1⟩ := open_agg2 Tryd.underlying24 (by kernel_rfl) (by kernel_rfl) (hval 1 24 v1 rfl rfl) h1
  obtain ⟨b1, eb, rfl⟩ := DataW.trod_bool Tryd.underlying4 hy1
  simp only [List.cons.injEq, and_true] at eb
  subst eb
  obtain ⟨a1, len1, cap1, z1, rfl, w1, r1⟩ : ∃ a l c zs, c0 = .slice a l c ∧ IsRow .i32 W a l c zs ∧ c ≤ 35184372087808 := by
    rcases open_ints Tryd.underlying22 Tryd.underlying21 (by kernel_rfl) hy0 with ⟨hcs, _⟩ | ⟨x, l, c, zs, hcs, _, hl, hm, hz, hd, hcell, hwz⟩
    · simp only [List.cons.injEq, and_true] at hcs
      exact ⟨_, _, _, [], hcs, .inl ⟨rfl, rfl, rfl, rfl⟩, by omega⟩
    · simp only [List.cons.injEq, and_true] at hcs
      simp only [if_true] at hz
      refine ⟨_, _, _, zs, hcs, .inr ⟨_, rfl, hl, hm, hz, hcell, hwz⟩, ?_⟩
      subst hd
      have hb := sized_test hsz (j := 1) (t := 24) rfl rfl
      simp [lits] at hb
      omega
  clear hA0
  have w0 : a0.size ≤ 140737488351232 := by have := sized_string hsz (j := 0) (t := 9) rfl rfl; simpa [reachBytes] using this
  refine (walk a0 a1 len1 cap1 z1 b1 W w0 w1 r1 (tabs_of hL (by unfold Rows.fnExactFieldsFuncSeqRow; simp) (by unfold Rows.fnExactFieldsFuncSeqRow; simp))).mono fun e W' ⟨he, bel⟩ => ?_
  subst he
  exact ⟨_, rfl, _, _, _, [], _, [], hW', trodAll_mk1 (shut_bool Tryd.underlying4 _), (trodAll_cons_mk (shut_string Tryd.underlying9 x0) (trodAll_cons_mk (Below.trod laidOut (by kernel_rfl) (of_decide_eq_true (by kernel_rfl)) k1 bel lt1) trodAll_mk0)), rfl, bel.frame _, fun h => by cases h⟩

theorem laid_met (os : Os) : laidMet Tryd.prog Rows.fnExactFieldsFuncSeqRow.laid ((laidWorld os).forCall (fun _ _ => 0) ⟨#[], #[.string ByteArray.empty, .agg #[.slice none 0 0, .bool false]], []⟩).memory :=
  laidMet_of_run' 8 (by kernel_rfl) (by kernel_rfl)
theorem reads (os : Os) {H : Type} (enc : TypeId × Value → H) : ∃ places, DataW.whole enc Tryd.prog ((laidWorld os).forCall (fun _ _ => 0) ⟨#[], #[.string ByteArray.empty, .agg #[.slice none 0 0, .bool false]], []⟩).memory Tryd.f8.params.toList Rows.fnExactFieldsFuncSeqSpec.vars false (#[.string ByteArray.empty, .agg #[.slice none 0 0, .bool false]] : Array Value).toList 8 = some ([.lit (.string []), .agg [.nil, .lit (.bool false)]], [], places) :=
  ⟨[], by kernel_rfl⟩
set_option maxRecDepth 100000 in
theorem lifted (os : Os) (started : os.Started) (H : Type) (enc : TypeId × Value → H) (F : Stop.Interp) :
    ReturnsInHanded {} Tryd.checked os 8 .any ((OpenSpec.ofChange Rows.fnExactFieldsFuncSeqSpec).preRow enc Tryd.prog Tryd.f8 Rows.fnExactFieldsFuncSeqRow.domain false Rows.fnExactFieldsFuncSeqRow.laid) (((OpenSpec.ofChange Rows.fnExactFieldsFuncSeqSpec).at F).post enc Tryd.prog Tryd.f8 false true false false) := by
  obtain ⟨places, hx⟩ := reads os enc
  refine returnsInHanded_of_row (C := Tryd.checked) (s := OpenSpec.ofChange Rows.fnExactFieldsFuncSeqSpec) own started (by kernel_rfl) Tryd.func8
    (witness_row_at (enc := enc) (C := Tryd.checked) false (laidWorld os) #[.string ByteArray.empty, .agg #[.slice none 0 0, .bool false]] rfl (by kernel_rfl) (by kernel_rfl) (by kernel_rfl)
      (OpenSpec.preRow_of_cond 8 hx (by kernel_rfl) (fun k hk => by cases hk) (by kernel_rfl) (laid_met os))) ?_
  intro W base args ds gs before hval0 hW _ hcond hsz0 hL _ _
  exact contract H enc W base args ds gs before hval0 hW hsz0 hL

theorem said : Rows.FnExactFieldsFuncSeqSaid :=
  OpenClaim.holds_of_cond 8 Tryd.f8 rfl rfl rfl rfl rfl rfl rfl ⟨rfl, rfl, rfl, rfl, rfl⟩ rfl rfl rfl rfl rfl (by kernel_rfl) Tryd.func8 (by kernel_rfl)
    (of_decide_eq_true (by kernel_rfl)) (by unfold Func.isWrapper; first | (rw [if_pos (by decide +kernel)]; kernel_rfl) | (rw [if_neg (by decide +kernel)]; exact ⟨rfl, rfl⟩))
    (fun os started H enc _ F => by rw [OpenClaim.pre_eq_preRow]; exact lifted os started H enc F)

theorem plain (f : FuncId) (fn : Func) (hf : Tryd.pinned.checked.prog.funcNamed Rows.fnExactFieldsFuncSeqRow.func = some f) (hfn : Tryd.pinned.checked.prog.funcs[f]? = some fn) :
    false = Tryd.pinned.checked.prog.looks [] ∧ ∀ (j : Nat) t, fn.params[j]? = some t → Tryd.pinned.checked.prog.wantsStandIn t = false := by
  obtain rfl : f = 8 := Option.some.inj ((show Tryd.prog.funcNamed Rows.fnExactFieldsFuncSeqRow.func = some 8 by kernel_rfl).symm.trans hf) |>.symm
  obtain rfl : fn = Tryd.f8 := (Option.some.inj (Tryd.func8.symm.trans hfn)).symm
  refine ⟨by kernel_rfl, fun j t ht => ?_⟩
  rw [Tryd.params8] at ht
  have hm := Array.mem_of_getElem? ht
  simp only [List.mem_toArray, List.mem_cons, List.mem_nil_iff, or_false] at hm
  rcases hm with rfl | rfl
  · exact (show Tryd.prog.wantsStandIn 9 = false by kernel_rfl)
  · exact (show Tryd.prog.wantsStandIn 24 = false by kernel_rfl)

theorem proved : Rows.FnExactFieldsFuncSeqCardSaid :=
  Claim7.holds_tied_plain_at .later [] _ _ _ _ said (fun _ h => by cases h) (by kernel_rfl) (fun _ h => by cases h) fnExactFieldsFuncSeq_row_tie rfl ⟨rfl, rfl⟩ (by kernel_rfl) rfl plain (by kernel_rfl)
#print axioms proved
end Go.Proofs.YtehjbmijbgonkaaDoor.fnExactFieldsFuncSeq
