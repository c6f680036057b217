/-
  For every text and two lists of code points the law FnMapCount returns true and changes nothing: a mapped text has as many code points as have an image that is not below 0, and it is well-formed. Condition: what comes in is of bulk at most 1048576 (the second form).
-/
import Derived.Test.YtlgibcphfmjddaaDoorCards
import Derived.Test.YtlgibcphfmjddaaDoorTie
import Derived.Test.YtlgibcphfmjddaaDoorTabs
import Derived.Test.YtlgibcphfmjddaaDoorMapT
import Derived.Test.YtlgibcphfmjddaaDoorMapU
import Derived.Test.YtlgibcphfmjddaaDoorMapP
import Derived.Test.YtlgibcphfmjddaaDoorMapC
import Derived.WalkKit
import Derived.ProofKit
import Derived.OpenShut
import Derived.ShutString
import Derived.ChangeOld
import Derived.Below
import Derived.SizedLaws
import Derived.Lib.SmallJoins
import Derived.Deep.CondSized
import Derived.Deep.DeepHandedRow
import Derived.Deep.DeepWitnessRowRef
namespace Go.Proofs.YtlgibcphfmjddaaDoor.fnMapCountUpto
open Go.ChangeShapes Go.WideShapes Go.ChangeAt Go.RowKit Go.Joins
open Go.ChangeMaps (open_string shut_string)
set_option linter.unusedVariables false

theorem own : ownKnob Tryd.prog.godebug = none := by kernel_rfl
theorem laidOut : laidOutB Tryd.prog = true := by kernel_rfl
theorem bulk_len (k : IntKind) {H : Type} (l : List Int) : l.length ≤ Rows.uptoBulkAll (lits (H := H) k l) := by
  induction l with
  | nil => simp [lits, Rows.uptoBulkAll]
  | cons x r ih => simp only [lits, List.map_cons, Rows.uptoBulkAll, Rows.uptoBulk, List.length_cons] at ih ⊢; omega
set_option maxHeartbeats 1000000 in
theorem walk (a0 : ByteArray) (a1 : Option Addr) (len1 cap1 : Nat) (z1 : List Int) (a2 : Option Addr) (len2 cap2 : Nat) (z2 : List Int) (w : World) (w0 : a0.size ≤ 1048576) (w1 : IsRow .i32 w a1 len1 cap1 z1) (r1 : cap1 ≤ 1048576) (w2 : IsRow .i32 w a2 len2 cap2 z2) (r2 : cap2 ≤ 1048576) (hT : Tabs w) :
    Calls Tryd.prog 4 #[.string a0, .slice a1 len1 cap1, .slice a2 len2 cap2] w fun e w' => e = .returned (.bool true) ∧ Below w.heap.size w w' := by
  have HT := Lib.hid hT; clear hT
  have hl1 := w1.lies; have hl2 := w2.lies
  have hle1 := w1.le; have hle2 := w2.le
  have hsm : Small ((z1.take len1).zip (z2.take len2)) := small_zip _ _ (fun z hz => w2.wf z (List.mem_of_mem_take hz))
  have hxl : (z1.take len1).length = len1 := by rw [List.length_take]; omega
  generalize z1.take len1 = xs at *
  generalize z2.take len2 = ys at *
  have HL1 := Lib.hid (show Lies w w.heap.size 1 a1 len1 (ivals xs) from hl1)
  have HL2 := Lib.hid (show Lies w w.heap.size 1 a2 len2 (ivals ys) from hl2)
  have hzl : (xs.zip ys).length ≤ 35184372088832 := by rw [List.length_zip]; omega
  have CT := Lib.hid (fun (W : World) (hb : Below w.heap.size w W) => laws_table a1 a2 len1 len2 cap1 cap2 xs ys W (HL1.out.later hb) (HL2.out.later hb) (by omega) (by omega))
  generalize xs.zip ys = rs at *
  clear hl1 hl2 w1 w2 hle1 hle2 HL1 HL2 hxl
  have HZ := Lib.hid hzl; have HSM := Lib.hid hsm
  obtain ⟨f, hf⟩ : ∃ f, imgB rs = f := ⟨_, rfl⟩
  obtain ⟨T, hTT⟩ : ∃ T : ByteArray, T = ⟨(Lib.mapD f a0.data.toList).toArray⟩ := ⟨_, rfl⟩
  have hTd : T.data.toList = Lib.mapD f a0.data.toList := by rw [hTT]
  have hTs : T.size ≤ 1099511627776 := by
    have := mapped_len f a0.data.toList
    rw [← hTd, len_data, len_data] at this; omega
  have hwT : (chs T.data.toList).all okC = true := by rw [hTd]; exact map_whole _ _
  have hcT : (pcs 0 T.data.toList).length = cntF f (pcs 0 a0.data.toList) := by rw [hTd, map_count]
  have CM := Lib.hid (fun (a : Option Addr) (c : Nat) (W : World) (hb : Below w.heap.size w W) (h : Lies W W.heap.size 2 a rs.length (rcells rs)) => impl_Map a c rs a0 W (by omega) (HT.out.below hb) h HZ.out HSM.out)
  have CI := Lib.hid (fun (a : Option Addr) (c : Nat) (x : Int) (W : World) (h : Lies W W.heap.size 2 a rs.length (rcells rs)) => spec_Image a c rs x W h HZ.out)
  rw [hf] at CM CI
  rw [← hTT] at CM
  have CP0 := Lib.hid (fun (W : World) => spec_Points a0 W (by omega))
  have CPT := Lib.hid (fun (W : World) => spec_Points T W hTs)
  have CWT := Lib.hid (fun (W : World) => spec_Whole T W hTs)
  rw [hwT] at CWT
  have hpn := pcs_len a0.data.toList.length 0 a0.data.toList (Nat.le_refl _)
  rw [len_data] at hpn
  generalize pcs 0 a0.data.toList = ps at *
  have HCT := Lib.hid hcT
  clear hf hTT hTd hwT hcT hzl hsm
  go_enter Tryd.func4, Tryd.ntmps4
  go_wp2_with fail
  refine (CT.out _ (Below.refl _ w)).mono ?_; rintro e w1 ⟨ta, tc, rfl, hl1, hb1⟩
  have hw : Below w1.heap.size w1 (w1.alloc (.cells #[.slice ta rs.length tc] 29)) := (Below.refl _ w1).alloc (Nat.le_refl _) _
  have B1 := Lib.hid (hb1.trans (hw.mono hb1.size)); have L1 := Lib.hid (hl1.later hw); have X1 := Lib.hid (Box.new w1 29 #[.slice ta rs.length tc])
  clear hb1 hl1 hw
  go_wp2_with fail
  generalize w1.heap.size = X at *
  generalize w1.alloc (.cells #[.slice ta rs.length tc] 29) = wa at *
  refine (CP0.out _).mono ?_; rintro e w2 ⟨g2, c2, rfl, ho2, hb2⟩
  have B2 := Lib.hid (B1.out.trans (hb2.mono B1.out.size)); have L2 := Lib.hid (L1.out.later hb2); have X2 := Lib.hid (X1.out.later hb2)
  have P2 := Lib.hid (runes_lie ho2)
  clear hb2 ho2 B1 L1 X1
  go_wp2_with fail
  go_loopw [8, 18] (fun vn vi wr => ∃ k : Nat, k ≤ ps.length ∧ vi = .int .i64 (k : Int) ∧ vn = .int .i64 (cntF f (ps.take k) : Int) ∧ Hid (Below w2.heap.size w2 wr)) (fun _ vi _ => ps.length - (intOf vi).toNat)
  case atStart => exact ⟨0, Nat.zero_le _, rfl, rfl, Below.refl _ _⟩
  case round =>
    obtain ⟨k, hk, rfl, rfl, HB⟩ := hrel
    have hxc : wr.cell? ⟨X, 0, none⟩ = some (.slice ta rs.length tc) := (X2.out.later HB.out).cell 0
    have hcl : cntF f (ps.take k) ≤ k := cnt_le f ps k
    by_cases hlt : k < ps.length
    · obtain ⟨g, o, hge, hg, c1⟩ := int_cell (P2.out.later HB.out) k (by simpa using hlt)
      obtain ⟨rfl, rfl⟩ : g = g2 ∧ o = 0 := by simp at hge; omega
      simp only [List.getElem_map, Nat.zero_add] at c1
      have HCS := Lib.hid (cnt_succ f ps k hlt)
      obtain ⟨r, hr⟩ : ∃ r, ps[k].r = r := ⟨_, rfl⟩
      rw [hr] at c1 HCS
      have CI2 := Lib.hid (CI.out ta tc (r : Int) wr (L2.out.later HB.out))
      obtain ⟨F, hF⟩ : ∃ F, f (r : Int) = F := ⟨_, rfl⟩
      rw [hF] at CI2 HCS
      clear hr hF hge
      by_cases hneg : 0 ≤ F
      · rw [if_pos hneg] at HCS
        go_wp2_with fail
        refine CI2.out.mono ?_; rintro e w3 ⟨rfl, hb3⟩
        have B3 := Lib.hid (HB.out.trans (hb3.mono HB.out.size)); clear hb3
        go_wp2_with fail
        exact ⟨⟨k + 1, by omega, by go_num, by rw [HCS.out]; go_num, B3.out⟩, by simp [intOf]; omega⟩
      · rw [if_neg hneg] at HCS
        go_wp2_with fail
        refine CI2.out.mono ?_; rintro e w3 ⟨rfl, hb3⟩
        have B3 := Lib.hid (HB.out.trans (hb3.mono HB.out.size)); clear hb3
        go_wp2_with fail
        exact ⟨⟨k + 1, by omega, by go_num, by rw [HCS.out]; go_num, B3.out⟩, by simp [intOf]; omega⟩
    · have hkk : ps.take k = ps := List.take_of_length_le (by omega)
      rw [hkk]
      rw [hkk] at hcl
      have HCM := Lib.hid (CM.out ta tc wr (B2.out.trans (HB.out.mono B2.out.size)) (L2.out.later HB.out))
      clear hkk
      generalize cntF f ps = N at *
      go_wp2_with fail
      refine HCM.out.mono ?_; rintro e w3 ⟨rfl, hb3⟩
      have B3 := Lib.hid ((B2.out.trans (HB.out.mono B2.out.size)).trans (hb3.mono (HB.out.size |> Nat.le_trans B2.out.size))); clear hb3
      go_wp2_with fail
      refine (CPT.out _).mono ?_; rintro e w4 ⟨g4, c4, rfl, ho4, hb4⟩; rw [HCT.out]
      have B4 := Lib.hid (B3.out.trans (hb4.mono B3.out.size)); clear hb4 ho4
      go_wp2_with fail
      refine (CWT.out _).mono ?_; rintro e w5 ⟨rfl, hb5⟩
      have B5 := Lib.hid (B4.out.trans (hb5.mono B4.out.size)); clear hb5
      go_wp2_with fail
      go_ret
      exact ⟨rfl, B5.out⟩

set_option maxRecDepth 100000 in
theorem contract (H : Type) (enc : TypeId × Value → H) (W : World) (base : Nat) (args : Array Value) (ds gs : List (DataW H)) (before : List MemPlace)
    (hval0 : ∀ (j : Nat) t v, Tryd.f4.params[j]? = some t → args[j]? = some v → Value.okWide Tryd.prog W .any base t v)
    (hW : DataW.Whole enc Tryd.prog Tryd.f4.params.toList Rows.fnMapCountSpec.vars false W args.toList ds gs before)
    (hsz0 : (DataW.weightsEach Tryd.prog (Tryd.f4.params.toList ++ Rows.fnMapCountSpec.plain.varTypes Tryd.prog) (ds ++ gs)).all (· ≤ reachBytes) = true) (hk : Rows.uptoSmall H (ds ++ gs) = true) (hL : laidMetH Tryd.prog Rows.fnMapCountUptoRow.laid W) :
    Calls Tryd.prog 4 args W fun e W' => ∃ v, e = .returned v ∧ Rows.fnMapCountSpec.post enc Tryd.prog Tryd.f4 false true false false W args v W' := by
  have hval := hval0
  have hsz := hsz0
  clear hval0 hsz0
  have hW' := hW
  obtain ⟨p, q, hA0, hV, rfl, hfz, hnd⟩ := hW
  have hA : DataW.TrodAll enc Tryd.prog W 0 (fun _ => true) true Tryd.f4.params.toList args.toList ds p := hA0
  rw [Tryd.params4] at hA hval hsz
  obtain ⟨v0, vs0, d0, ds0, p0, q0, hargs, rfl, rfl, h0, r0x⟩ := trodAll_cons hA
  obtain ⟨v1, vs1, d1, ds1, p1, q1, rfl, rfl, rfl, h1, r1x⟩ := trodAll_cons r0x
  obtain ⟨v2, vs2, d2, ds2, p2, q2, rfl, rfl, rfl, h2, r2x⟩ := trodAll_cons r1x
  obtain ⟨rfl, rfl, rfl⟩ := trodAll_nil r2x
  obtain rfl : args = #[v0, v1, v2] := by cases args; simp_all
  obtain ⟨rfl, rfl⟩ := trodVars_none hV
  have hbulk := of_decide_eq_true hk
  obtain ⟨a0, rfl, rfl, rfl, x0⟩ := open_string Tryd.underlying9 (hval 0 9 v0 rfl rfl) h0
  obtain ⟨a1, len1, cap1, rfl⟩ := okWide_slice Tryd.underlying33 (hval 1 33 v1 rfl rfl)
  have k1 := h1
  have lt1 : ∀ x ∈ p1, x.block < W.heap.size := by obtain ⟨m, hm⟩ := k1; exact DataW.trod_lt m _ _ _ hm
  obtain ⟨z1, w1, r1⟩ : ∃ zs, IsRow .i32 W a1 len1 cap1 zs ∧ cap1 ≤ 1048576 := by
    obtain ⟨fuel, hf⟩ := h1
    rcases open_ints Tryd.underlying33 Tryd.underlying21 (by kernel_rfl) hf with ⟨hcs, _⟩ | ⟨x, l, c, zs, hcs, _, hl, hm, hz, hd, hcell, hwz⟩
    · simp [Value.cells] at hcs
      obtain ⟨rfl, rfl, rfl⟩ := hcs
      exact ⟨[], .inl ⟨rfl, rfl, rfl, rfl⟩, by omega⟩
    · simp [Value.cells] at hcs
      obtain ⟨rfl, rfl, rfl⟩ := hcs
      simp only [if_true] at hz
      simp only [Prod.mk.injEq] at hd
      refine ⟨zs, .inr ⟨_, rfl, hl, hm, hz, hcell, hwz⟩, ?_⟩
      obtain ⟨hd, -⟩ := hd
      subst hd
      simp only [Rows.uptoBulkAll, Rows.uptoBulk, List.append_nil] at hbulk
      have e1 := bulk_len .i32 (H := H) (zs.take len1)
      have e2 := bulk_len .i32 (H := H) (zs.drop len1)
      simp only [List.length_take, List.length_drop] at e1 e2
      omega
  obtain ⟨a2, len2, cap2, rfl⟩ := okWide_slice Tryd.underlying33 (hval 2 33 v2 rfl rfl)
  have k2 := h2
  have lt2 : ∀ x ∈ p2, x.block < W.heap.size := by obtain ⟨m, hm⟩ := k2; exact DataW.trod_lt m _ _ _ hm
  obtain ⟨z2, w2, r2⟩ : ∃ zs, IsRow .i32 W a2 len2 cap2 zs ∧ cap2 ≤ 1048576 := by
    obtain ⟨fuel, hf⟩ := h2
    rcases open_ints Tryd.underlying33 Tryd.underlying21 (by kernel_rfl) hf with ⟨hcs, _⟩ | ⟨x, l, c, zs, hcs, _, hl, hm, hz, hd, hcell, hwz⟩
    · simp [Value.cells] at hcs
      obtain ⟨rfl, rfl, rfl⟩ := hcs
      exact ⟨[], .inl ⟨rfl, rfl, rfl, rfl⟩, by omega⟩
    · simp [Value.cells] at hcs
      obtain ⟨rfl, rfl, rfl⟩ := hcs
      simp only [if_true] at hz
      simp only [Prod.mk.injEq] at hd
      refine ⟨zs, .inr ⟨_, rfl, hl, hm, hz, hcell, hwz⟩, ?_⟩
      obtain ⟨hd, -⟩ := hd
      subst hd
      simp only [Rows.uptoBulkAll, Rows.uptoBulk, List.append_nil] at hbulk
      have e1 := bulk_len .i32 (H := H) (zs.take len2)
      have e2 := bulk_len .i32 (H := H) (zs.drop len2)
      simp only [List.length_take, List.length_drop] at e1 e2
      omega
  clear hA0
  have w0 : a0.size ≤ 1048576 := by
    simp only [Rows.uptoBulkAll, Rows.uptoBulk, List.append_nil] at hbulk
    have e : a0.data.toList.length = a0.size := by rw [Array.length_toList]; rfl
    omega
  refine (walk a0 a1 len1 cap1 z1 a2 len2 cap2 z2 W w0 w1 r1 w2 r2 (tabs_of hL (by unfold Rows.fnMapCountUptoRow; simp) (by unfold Rows.fnMapCountUptoRow; simp))).mono fun e W' ⟨he, bel⟩ => ?_
  subst he
  exact ⟨_, rfl, _, _, _, [], _, [], hW', trodAll_mk1 (shut_bool Tryd.underlying4 _), (trodAll_cons_mk (shut_string Tryd.underlying9 x0) (trodAll_cons_mk (Below.trod laidOut (by kernel_rfl) (of_decide_eq_true (by kernel_rfl)) k1 bel lt1) (trodAll_cons_mk (Below.trod laidOut (by kernel_rfl) (of_decide_eq_true (by kernel_rfl)) k2 bel lt2) trodAll_mk0))), rfl, bel.frame _, fun h => by cases h⟩

theorem laid_met (os : Os) : laidMet Tryd.prog Rows.fnMapCountUptoRow.laid ((laidWorld os).forCall (fun _ _ => 0) ⟨#[], #[.string ByteArray.empty, .slice none 0 0, .slice none 0 0], []⟩).memory :=
  laidMet_of_run' 8 (by kernel_rfl) (by kernel_rfl)
theorem reads (os : Os) {H : Type} (enc : TypeId × Value → H) : ∃ places, DataW.whole enc Tryd.prog ((laidWorld os).forCall (fun _ _ => 0) ⟨#[], #[.string ByteArray.empty, .slice none 0 0, .slice none 0 0], []⟩).memory Tryd.f4.params.toList Rows.fnMapCountSpec.vars false (#[.string ByteArray.empty, .slice none 0 0, .slice none 0 0] : Array Value).toList 8 = some ([.lit (.string []), .nil, .nil], [], places) :=
  ⟨[], by kernel_rfl⟩
set_option maxRecDepth 100000 in
theorem lifted (os : Os) (started : os.Started) (H : Type) (enc : TypeId × Value → H) (F : Stop.Interp) :
    ReturnsInHanded {} Tryd.checked os 4 .any ((Rows.OpenSpec.upto Rows.fnMapCountSpec).preRow enc Tryd.prog Tryd.f4 Rows.fnMapCountUptoRow.domain false Rows.fnMapCountUptoRow.laid) (((Rows.OpenSpec.upto Rows.fnMapCountSpec).at F).post enc Tryd.prog Tryd.f4 false true false false) := by
  obtain ⟨places, hx⟩ := reads os enc
  refine returnsInHanded_of_row (C := Tryd.checked) (s := Rows.OpenSpec.upto Rows.fnMapCountSpec) own started (by kernel_rfl) Tryd.func4
    (witness_row_at (enc := enc) (C := Tryd.checked) false (laidWorld os) #[.string ByteArray.empty, .slice none 0 0, .slice none 0 0] rfl (by kernel_rfl) (by kernel_rfl) (by kernel_rfl)
      (OpenSpec.preRow_of_cond 8 hx (by kernel_rfl) (fun k hk => by cases hk; kernel_rfl) (by kernel_rfl) (laid_met os))) ?_
  intro W base args ds gs before hval0 hW _ hcond hsz0 hL _ _
  exact contract H enc W base args ds gs before hval0 hW hsz0 (hcond _ rfl) hL

theorem said : Rows.FnMapCountUptoSaid :=
  OpenClaim.holds_of_cond 4 Tryd.f4 rfl rfl rfl rfl rfl rfl rfl ⟨rfl, rfl, rfl, rfl, rfl⟩ rfl rfl rfl rfl rfl (by kernel_rfl) Tryd.func4 (by kernel_rfl)
    (of_decide_eq_true (by kernel_rfl)) (by unfold Func.isWrapper; first | (rw [if_pos (by decide +kernel)]; kernel_rfl) | (rw [if_neg (by decide +kernel)]; exact ⟨rfl, rfl⟩))
    (fun os started H enc _ F => by rw [OpenClaim.pre_eq_preRow]; exact lifted os started H enc F)

theorem plain (f : FuncId) (fn : Func) (hf : Tryd.pinned.checked.prog.funcNamed Rows.fnMapCountUptoRow.func = some f) (hfn : Tryd.pinned.checked.prog.funcs[f]? = some fn) :
    false = Tryd.pinned.checked.prog.looks [] ∧ ∀ (j : Nat) t, fn.params[j]? = some t → Tryd.pinned.checked.prog.wantsStandIn t = false := by
  obtain rfl : f = 4 := Option.some.inj ((show Tryd.prog.funcNamed Rows.fnMapCountUptoRow.func = some 4 by kernel_rfl).symm.trans hf) |>.symm
  obtain rfl : fn = Tryd.f4 := (Option.some.inj (Tryd.func4.symm.trans hfn)).symm
  refine ⟨by kernel_rfl, fun j t ht => ?_⟩
  rw [Tryd.params4] at ht
  have hm := Array.mem_of_getElem? ht
  simp only [List.mem_toArray, List.mem_cons, List.mem_nil_iff, or_false] at hm
  rcases hm with rfl | rfl | rfl
  · exact (show Tryd.prog.wantsStandIn 9 = false by kernel_rfl)
  · exact (show Tryd.prog.wantsStandIn 33 = false by kernel_rfl)
  · exact (show Tryd.prog.wantsStandIn 33 = false by kernel_rfl)

theorem proved : Rows.FnMapCountUptoCardSaid :=
  Claim7.holds_tied_plain_at .later [] _ _ _ _ said (fun _ h => by cases h) (by kernel_rfl) (fun _ h => by cases h) fnMapCountUpto_row_tie rfl ⟨rfl, rfl⟩ (by kernel_rfl) rfl plain (by kernel_rfl)
#print axioms proved
end Go.Proofs.YtlgibcphfmjddaaDoor.fnMapCountUpto
