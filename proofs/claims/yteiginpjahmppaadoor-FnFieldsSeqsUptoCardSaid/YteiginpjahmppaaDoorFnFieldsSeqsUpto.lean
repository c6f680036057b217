/-
  For every text, list of runes and flag the law FnFieldsSeqs returns true and changes nothing: what the iterators tell are the fields. Condition: what comes in is of bulk at most 1048576 (the second form).
-/
import Derived.Test.YteiginpjahmppaaDoorCards
import Derived.Test.YteiginpjahmppaaDoorTie
import Derived.Test.YteiginpjahmppaaDoorTabs
import Derived.Test.YteiginpjahmppaaDoorSpaceF
import Derived.Test.YteiginpjahmppaaDoorSpaceIt
import Derived.Test.YteiginpjahmppaaDoorSeqIt
import Derived.Test.YteiginpjahmppaaDoorFieldsI
import Derived.Test.YteiginpjahmppaaDoorWords
import Derived.Test.YteiginpjahmppaaDoorSame
import Derived.WalkKit
import Derived.ProofKit
import Derived.OpenShut
import Derived.ShutString
import Derived.ChangeOld
import Derived.Below
import Derived.SizedLaws
import Derived.Lib.SmallJoins
import Derived.Deep.CondSized
import Derived.Deep.DeepHandedRow
import Derived.Deep.DeepWitnessRowRef
namespace Go.Proofs.YteiginpjahmppaaDoor.fnFieldsSeqsUpto
open Go.ChangeShapes Go.WideShapes Go.ChangeAt Go.RowKit Go.Joins
open Go.ChangeMaps (open_string shut_string)
set_option linter.unusedVariables false

theorem own : ownKnob Tryd.prog.godebug = none := by kernel_rfl
theorem laidOut : laidOutB Tryd.prog = true := by kernel_rfl
theorem bulk_len (k : IntKind) {H : Type} (l : List Int) : l.length ≤ Rows.uptoBulkAll (lits (H := H) k l) := by
  induction l with
  | nil => simp [lits, Rows.uptoBulkAll]
  | cons x r ih => simp only [lits, List.map_cons, Rows.uptoBulkAll, Rows.uptoBulk, List.length_cons] at ih ⊢; omega
set_option maxHeartbeats 1000000 in
theorem walk (a0 : ByteArray) (a1 : Option Addr) (len1 cap1 : Nat) (z1 : List Int) (a2 : Bool) (w : World) (w0 : a0.size ≤ 1048576) (w1 : IsRow .i32 w a1 len1 cap1 z1) (r1 : cap1 ≤ 1048576) (hT : Tabs w) (hS : Spaces w) :
    Calls Tryd.prog 7 #[.string a0, .slice a1 len1 cap1, .bool a2] w fun e w' => e = .returned (.bool true) ∧ Below w.heap.size w w' := by
  have HT := Lib.hid hT; have HS := Lib.hid hS; clear hT hS
  have hl := w1.lies
  have hn1 : a1 = none → len1 = 0 := fun h => by rcases w1 with ⟨_, h, _⟩ | ⟨x, h', _⟩; exact h; rw [h] at h'; cases h'
  have hle := w1.le
  generalize hzz : z1.take len1 = zs at *
  have hl' : Lies w w.heap.size 1 a1 len1 (ints zs) := hl
  clear hl
  have HL := Lib.hid hl'
  have HN := Lib.hid hn1
  have hlen : len1 ≤ 35184372088832 := by omega
  have hzle : zs.length ≤ 70368744177664 := by have := HL.out.1; simp [ints] at this; omega
  clear hl' hn1 hzz w1 hle r1
  have hE := (field_ends Lib.isSpaceR a0).none
  have hLn := fieldsP_len Lib.isSpaceR a0
  have hMn := fieldsP_len (fun x => holdB zs a2 x) a0
  have CF := Lib.hid (fun (W : World) (hb : Below w.heap.size w W) => impl_Fields a0 W (by omega) (HS.out.below hb))
  have CQ := Lib.hid (fun (W : World) (hb : Below w.heap.size w W) => impl_FieldsSeq a0 W (by omega) (HT.out.below hb) (HS.out.below hb))
  have CFF := Lib.hid (fun (a : Option Addr) (c : Nat) (W : World) (hb : Below w.heap.size w W) (h : Lies W W.heap.size 1 a zs.length (ints zs)) => impl_FieldsFunc a zs.length c zs a2 a0 W (by omega) h hzle)
  have CFQ := Lib.hid (fun (a : Option Addr) (c : Nat) (W : World) (hb : Below w.heap.size w W) (h : Lies W W.heap.size 1 a zs.length (ints zs)) => impl_FieldsFuncSeq a zs.length c zs a2 a0 W (by omega) (HT.out.below hb) h hzle)
  have CS := Lib.hid (fun (W : World) => spec_TrimSpace a0 W (by omega))
  generalize fieldsP Lib.isSpaceR a0 = L at *
  generalize fieldsP (fun x => holdB zs a2 x) a0 = M at *
  generalize trimR Lib.isSpaceR (trimL Lib.isSpaceR a0) = t at *
  have HE := Lib.hid hE; clear hE
  go_enter Tryd.func7, Tryd.ntmps7
  go_wp2_with fail
  refine (CQ.out _ (Below.refl _ _)).mono ?_; rintro e w1' ⟨g, c, rfl, ho1, hb1⟩
  have B1 := Lib.hid hb1; have L1 := Lib.hid (show Lies w1' w1'.heap.size 1 (some ⟨g, 0, none⟩) L.length (strs L) from Lies.of_own ho1)
  clear hb1 ho1
  go_wp2_with fail
  refine (laws_test _ _ _ zs _ _ HN.out (HL.out.later B1.out) hlen).mono ?_; rintro e w2 ⟨a', c', rfl, hl2, hb2⟩
  have B2 := Lib.hid (B1.out.trans (hb2.mono B1.out.size)); have T2 := Lib.hid hl2; have L2 := Lib.hid (L1.out.later hb2)
  clear hb2 hl2 L1
  go_wp2_with fail
  refine (CFQ.out a' c' _ B2.out T2.out).mono ?_; rintro e w3 ⟨g3, c3, rfl, ho3, hb3⟩
  have B3 := Lib.hid (B2.out.trans (hb3.mono B2.out.size)); have L3 := Lib.hid (L2.out.later hb3); have M3 := Lib.hid (show Lies w3 w3.heap.size 1 (some ⟨g3, 0, none⟩) M.length (strs M) from Lies.of_own ho3)
  clear hb3 ho3 L2 T2
  go_wp2_with fail
  refine (laws_test _ _ _ zs _ _ HN.out (HL.out.later B3.out) hlen).mono ?_; rintro e w4 ⟨a'', c'', rfl, hl4, hb4⟩
  have B4 := Lib.hid (B3.out.trans (hb4.mono B3.out.size)); have T4 := Lib.hid hl4; have L4 := Lib.hid (L3.out.later hb4); have M4 := Lib.hid (M3.out.later hb4)
  clear hb4 hl4 L3 M3
  go_wp2_with fail
  refine (CFF.out a'' c'' _ B4.out T4.out).mono ?_; rintro e w5 ⟨g5, c5, rfl, ho5, hb5⟩
  have B5 := Lib.hid (B4.out.trans (hb5.mono B4.out.size)); have L5 := Lib.hid (L4.out.later hb5); have M5 := Lib.hid (M4.out.later hb5); have N5 := Lib.hid (show Lies w5 w5.heap.size 1 (some ⟨g5, 0, none⟩) M.length (strs M) from Lies.of_own ho5)
  clear hb5 ho5 L4 M4 T4
  go_wp2_with fail
  refine (laws_same _ _ _ _ M _ M5.out N5.out (by omega)).mono ?_; rintro e w6 ⟨rfl, hd6⟩
  have hb6 := hd6.below w5.heap.size
  have B6 := Lib.hid (B5.out.trans (hb6.mono B5.out.size)); have L6 := Lib.hid (L5.out.later hb6)
  clear hd6 hb6 L5 M5 N5
  go_wp2_with fail
  refine (CF.out _ B6.out).mono ?_; rintro e w7 ⟨g7, c7, rfl, ho7, hb7⟩
  have B7 := Lib.hid (B6.out.trans (hb7.mono B6.out.size)); have L7 := Lib.hid (L6.out.later hb7); have N7 := Lib.hid (show Lies w7 w7.heap.size 1 (some ⟨g7, 0, none⟩) L.length (strs L) from Lies.of_own ho7)
  clear hb7 ho7 L6
  go_wp2_with fail
  refine (laws_same _ _ _ _ L _ L7.out N7.out (by omega)).mono ?_; rintro e w8 ⟨rfl, hd8⟩
  have B8 := Lib.hid (B7.out.trans ((hd8.below w7.heap.size).mono B7.out.size))
  clear hd8
  by_cases h0 : L.length = 0
  · have he := empty_yes (HE.out.1 h0)
    have hl0 : ((L.length : Int) == 0) = true := by simp [h0]
    clear h0
    go_wp2_with fail
    refine (CS.out _).mono ?_; rintro e w9 ⟨rfl, hb9⟩
    have B9 := Lib.hid (B8.out.trans (hb9.mono B8.out.size)); clear hb9
    go_wp2_with fail
    go_ret
    exact ⟨rfl, B9.out⟩
  · have he := empty_no (fun h => h0 (HE.out.2 h))
    have hl0 : ((L.length : Int) == 0) = false := beq_eq_false_iff_ne.2 (by omega)
    clear h0
    go_wp2_with fail
    refine (CS.out _).mono ?_; rintro e w9 ⟨rfl, hb9⟩
    have B9 := Lib.hid (B8.out.trans (hb9.mono B8.out.size)); clear hb9
    go_wp2_with fail
    go_ret
    exact ⟨rfl, B9.out⟩

theorem contract (H : Type) (enc : TypeId × Value → H) (W : World) (base : Nat) (args : Array Value) (ds gs : List (DataW H)) (before : List MemPlace)
    (hval0 : ∀ (j : Nat) t v, Tryd.f7.params[j]? = some t → args[j]? = some v → Value.okWide Tryd.prog W .any base t v)
    (hW : DataW.Whole enc Tryd.prog Tryd.f7.params.toList Rows.fnFieldsSeqsSpec.vars false W args.toList ds gs before)
    (hsz0 : (DataW.weightsEach Tryd.prog (Tryd.f7.params.toList ++ Rows.fnFieldsSeqsSpec.plain.varTypes Tryd.prog) (ds ++ gs)).all (· ≤ reachBytes) = true) (hk : Rows.uptoSmall H (ds ++ gs) = true) (hL : laidMetH Tryd.prog Rows.fnFieldsSeqsUptoRow.laid W) :
    Calls Tryd.prog 7 args W fun e W' => ∃ v, e = .returned v ∧ Rows.fnFieldsSeqsSpec.post enc Tryd.prog Tryd.f7 false true false false W args v W' := by
  have hval := hval0
  have hsz := hsz0
  clear hval0 hsz0
  have hW' := hW
  obtain ⟨p, q, hA0, hV, rfl, hfz, hnd⟩ := hW
  have hA : DataW.TrodAll enc Tryd.prog W 0 (fun _ => true) true Tryd.f7.params.toList args.toList ds p := hA0
  rw [Tryd.params7] at hA hval hsz
  obtain ⟨v0, vs0, d0, ds0, p0, q0, hargs, rfl, rfl, h0, r0x⟩ := trodAll_cons hA
  obtain ⟨v1, vs1, d1, ds1, p1, q1, rfl, rfl, rfl, h1, r1x⟩ := trodAll_cons r0x
  obtain ⟨v2, vs2, d2, ds2, p2, q2, rfl, rfl, rfl, h2, r2x⟩ := trodAll_cons r1x
  obtain ⟨rfl, rfl, rfl⟩ := trodAll_nil r2x
  obtain rfl : args = #[v0, v1, v2] := by cases args; simp_all
  obtain ⟨rfl, rfl⟩ := trodVars_none hV
  have hbulk := of_decide_eq_true hk
  obtain ⟨a0, rfl, rfl, rfl, x0⟩ := open_string Tryd.underlying9 (hval 0 9 v0 rfl rfl) h0
  obtain ⟨a1, len1, cap1, rfl⟩ := okWide_slice Tryd.underlying22 (hval 1 22 v1 rfl rfl)
  have k1 := h1
  have lt1 : ∀ x ∈ p1, x.block < W.heap.size := by obtain ⟨m, hm⟩ := k1; exact DataW.trod_lt m _ _ _ hm
  obtain ⟨z1, w1, r1⟩ : ∃ zs, IsRow .i32 W a1 len1 cap1 zs ∧ cap1 ≤ 1048576 := by
    obtain ⟨fuel, hf⟩ := h1
    rcases open_ints Tryd.underlying22 Tryd.underlying21 (by kernel_rfl) hf with ⟨hcs, _⟩ | ⟨x, l, c, zs, hcs, _, hl, hm, hz, hd, hcell, hwz⟩
    · simp [Value.cells] at hcs
      obtain ⟨rfl, rfl, rfl⟩ := hcs
      exact ⟨[], .inl ⟨rfl, rfl, rfl, rfl⟩, by omega⟩
    · simp [Value.cells] at hcs
      obtain ⟨rfl, rfl, rfl⟩ := hcs
      simp only [if_true] at hz
      simp only [Prod.mk.injEq] at hd
      refine ⟨zs, .inr ⟨_, rfl, hl, hm, hz, hcell, hwz⟩, ?_⟩
      obtain ⟨hd, -⟩ := hd
      subst hd
      simp only [Rows.uptoBulkAll, Rows.uptoBulk, List.append_nil] at hbulk
      have e1 := bulk_len .i32 (H := H) (zs.take len1)
      have e2 := bulk_len .i32 (H := H) (zs.drop len1)
      simp only [List.length_take, List.length_drop] at e1 e2
      omega
  obtain ⟨a2, rfl, rfl, rfl⟩ := open_bool Tryd.underlying4 (hval 2 4 v2 rfl rfl) h2
  clear hA0
  have w0 : a0.size ≤ 1048576 := by
    simp only [Rows.uptoBulkAll, Rows.uptoBulk, List.append_nil] at hbulk
    have e : a0.data.toList.length = a0.size := by rw [Array.length_toList]; rfl
    omega
  refine (walk a0 a1 len1 cap1 z1 a2 W w0 w1 r1 (tabs_of hL (by unfold Rows.fnFieldsSeqsUptoRow; simp) (by unfold Rows.fnFieldsSeqsUptoRow; simp)) (spaces_of hL (by unfold Rows.fnFieldsSeqsUptoRow; simp) (by unfold Rows.fnFieldsSeqsUptoRow; simp))).mono fun e W' ⟨he, bel⟩ => ?_
  subst he
  exact ⟨_, rfl, _, _, _, [], _, [], hW', trodAll_mk1 (shut_bool Tryd.underlying4 _), (trodAll_cons_mk (shut_string Tryd.underlying9 x0) (trodAll_cons_mk (Below.trod laidOut (by kernel_rfl) (of_decide_eq_true (by kernel_rfl)) k1 bel lt1) (trodAll_cons_mk (shut_bool Tryd.underlying4 _) trodAll_mk0))), rfl, bel.frame _, fun h => by cases h⟩

theorem laid_met (os : Os) : laidMet Tryd.prog Rows.fnFieldsSeqsUptoRow.laid ((laidWorld os).forCall (fun _ _ => 0) ⟨#[], #[.string ByteArray.empty, .slice none 0 0, .bool false], []⟩).memory :=
  laidMet_of_run' 8 (by kernel_rfl) (by kernel_rfl)
theorem reads (os : Os) {H : Type} (enc : TypeId × Value → H) : ∃ places, DataW.whole enc Tryd.prog ((laidWorld os).forCall (fun _ _ => 0) ⟨#[], #[.string ByteArray.empty, .slice none 0 0, .bool false], []⟩).memory Tryd.f7.params.toList Rows.fnFieldsSeqsSpec.vars false (#[.string ByteArray.empty, .slice none 0 0, .bool false] : Array Value).toList 8 = some ([.lit (.string []), .nil, .lit (.bool false)], [], places) :=
  ⟨[], by kernel_rfl⟩
set_option maxRecDepth 100000 in
theorem lifted (os : Os) (started : os.Started) (H : Type) (enc : TypeId × Value → H) (F : Stop.Interp) :
    ReturnsInHanded {} Tryd.checked os 7 .any ((Rows.OpenSpec.upto Rows.fnFieldsSeqsSpec).preRow enc Tryd.prog Tryd.f7 Rows.fnFieldsSeqsUptoRow.domain false Rows.fnFieldsSeqsUptoRow.laid) (((Rows.OpenSpec.upto Rows.fnFieldsSeqsSpec).at F).post enc Tryd.prog Tryd.f7 false true false false) := by
  obtain ⟨places, hx⟩ := reads os enc
  refine returnsInHanded_of_row (C := Tryd.checked) (s := Rows.OpenSpec.upto Rows.fnFieldsSeqsSpec) own started (by kernel_rfl) Tryd.func7
    (witness_row_atRef (enc := enc) (C := Tryd.checked) false (laidWorld os) #[.string ByteArray.empty, .slice none 0 0, .bool false] rfl (by kernel_rfl) (by kernel_rfl) (by kernel_rfl)
      (OpenSpec.preRow_of_cond 8 hx (by kernel_rfl) (fun k hk => by cases hk; kernel_rfl) (by kernel_rfl) (laid_met os))) ?_
  intro W base args ds gs before hval0 hW _ hcond hsz0 hL _ _
  exact contract H enc W base args ds gs before hval0 hW hsz0 (hcond _ rfl) hL

theorem said : Rows.FnFieldsSeqsUptoSaid :=
  OpenClaim.holds_of_cond 7 Tryd.f7 rfl rfl rfl rfl rfl rfl rfl ⟨rfl, rfl, rfl, rfl, rfl⟩ rfl rfl rfl rfl rfl (by kernel_rfl) Tryd.func7 (by kernel_rfl)
    (of_decide_eq_true (by kernel_rfl)) (by unfold Func.isWrapper; first | (rw [if_pos (by decide +kernel)]; kernel_rfl) | (rw [if_neg (by decide +kernel)]; exact ⟨rfl, rfl⟩))
    (fun os started H enc _ F => by rw [OpenClaim.pre_eq_preRow]; exact lifted os started H enc F)

theorem plain (f : FuncId) (fn : Func) (hf : Tryd.pinned.checked.prog.funcNamed Rows.fnFieldsSeqsUptoRow.func = some f) (hfn : Tryd.pinned.checked.prog.funcs[f]? = some fn) :
    false = Tryd.pinned.checked.prog.looks [] ∧ ∀ (j : Nat) t, fn.params[j]? = some t → Tryd.pinned.checked.prog.wantsStandIn t = false := by
  obtain rfl : f = 7 := Option.some.inj ((show Tryd.prog.funcNamed Rows.fnFieldsSeqsUptoRow.func = some 7 by kernel_rfl).symm.trans hf) |>.symm
  obtain rfl : fn = Tryd.f7 := (Option.some.inj (Tryd.func7.symm.trans hfn)).symm
  refine ⟨by kernel_rfl, fun j t ht => ?_⟩
  rw [Tryd.params7] at ht
  have hm := Array.mem_of_getElem? ht
  simp only [List.mem_toArray, List.mem_cons, List.mem_nil_iff, or_false] at hm
  rcases hm with rfl | rfl | rfl
  · exact (show Tryd.prog.wantsStandIn 9 = false by kernel_rfl)
  · exact (show Tryd.prog.wantsStandIn 22 = false by kernel_rfl)
  · exact (show Tryd.prog.wantsStandIn 4 = false by kernel_rfl)

theorem proved : Rows.FnFieldsSeqsUptoCardSaid :=
  Claim7.holds_tied_plain_at .later [] _ _ _ _ said (fun _ h => by cases h) (by kernel_rfl) (fun _ h => by cases h) fnFieldsSeqsUpto_row_tie rfl ⟨rfl, rfl⟩ (by kernel_rfl) rfl plain (by kernel_rfl)
#print axioms proved
end Go.Proofs.YteiginpjahmppaaDoor.fnFieldsSeqsUpto
