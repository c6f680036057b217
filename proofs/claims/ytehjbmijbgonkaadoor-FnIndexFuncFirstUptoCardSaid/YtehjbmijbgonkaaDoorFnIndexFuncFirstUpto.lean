/-
  For every text, list of runes and flag the law FnIndexFuncFirst returns true and changes nothing. Condition: what comes in is of bulk at most 1048576 (the second form).
-/
import Derived.Test.YtehjbmijbgonkaaDoorCards
import Derived.Test.YtehjbmijbgonkaaDoorTie
import Derived.Test.YtehjbmijbgonkaaDoorTabs
import Derived.Test.YtehjbmijbgonkaaDoorLastF
import Derived.Test.YtehjbmijbgonkaaDoorLastS
import Derived.Test.YtehjbmijbgonkaaDoorSides
import Derived.Test.YtehjbmijbgonkaaDoorHold
import Derived.Deep.RegionHeld3
import Derived.WalkKit
import Derived.ProofKit
import Derived.OpenShut
import Derived.ShutString
import Derived.ChangeOld
import Derived.Below
import Derived.SizedLaws
import Derived.Lib.SmallJoins
import Derived.Deep.CondSized
import Derived.Deep.DeepHandedRow
import Derived.Deep.DeepWitnessRowRef
namespace Go.Proofs.YtehjbmijbgonkaaDoor.fnIndexFuncFirstUpto
open Go.ChangeShapes Go.WideShapes Go.ChangeAt Go.RowKit Go.Joins
open Go.ChangeMaps (open_string shut_string)
set_option linter.unusedVariables false

theorem own : ownKnob Tryd.prog.godebug = none := by kernel_rfl
theorem laidOut : laidOutB Tryd.prog = true := by kernel_rfl
theorem bulk_len (k : IntKind) {H : Type} (l : List Int) : l.length ≤ Rows.uptoBulkAll (lits (H := H) k l) := by
  induction l with
  | nil => simp [lits, Rows.uptoBulkAll]
  | cons x r ih => simp only [lits, List.map_cons, Rows.uptoBulkAll, Rows.uptoBulk, List.length_cons] at ih ⊢; omega
set_option maxHeartbeats 1000000 in
theorem walk (a0 : ByteArray) (a1 : Option Addr) (len1 cap1 : Nat) (z1 : List Int) (a2 : Bool) (w : World) (w0 : a0.size ≤ 1048576) (w1 : IsRow .i32 w a1 len1 cap1 z1) (r1 : cap1 ≤ 1048576) (hT : Tabs w) :
    Calls Tryd.prog 5 #[.string a0, .slice a1 len1 cap1, .bool a2] w fun e w' => e = .returned (.bool true) ∧ Below w.heap.size w w' := by
  have HT := Lib.hid hT; clear hT
  have hl := w1.lies
  have hn1 : a1 = none → len1 = 0 := fun h => by rcases w1 with ⟨_, h, _⟩ | ⟨x, h', _⟩; exact h; rw [h] at h'; cases h'
  have hle := w1.le
  generalize hzz : z1.take len1 = zs at *
  have hl' : Lies w w.heap.size 1 a1 len1 (ints zs) := hl
  clear hl
  have HL := Lib.hid hl'
  have HN := Lib.hid hn1
  have hlen : len1 ≤ 35184372088832 := by omega
  have hzle : zs.length ≤ 70368744177664 := by have := HL.out.1; simp [ints] at this; omega
  clear hl' hn1 hzz w1 hle r1
  have HEF := Lib.hid (end_facts (fun x => holdB zs a2 x) a0)
  have CI := Lib.hid (fun (s : ByteArray) (a : Option Addr) (c : Nat) (W : World) (h : Lies W W.heap.size 1 a zs.length (ints zs)) => (impl_IndexFunc a zs.length c zs a2 s W h hzle).mono (R' := fun e w' => e = .returned (.int .i64 (firstAt (fun x => holdB zs a2 x) (pcs 0 s.data.toList))) ∧ Below W.heap.size W w') (fun e w' h => by rw [idx_true] at h; exact h))
  have CC := Lib.hid (fun (a : Option Addr) (c : Nat) (W : World) (h : Lies W W.heap.size 1 a zs.length (ints zs)) => (impl_ContainsFunc a zs.length c zs a2 a0 W h hzle).mono (R' := fun e w' => e = .returned (.bool (decide (0 ≤ firstAt (fun x => holdB zs a2 x) (pcs 0 a0.data.toList)))) ∧ Below W.heap.size W w') (fun e w' h => by rw [idx_true] at h; exact h))
  have CL := Lib.hid (fun (a : Option Addr) (c : Nat) (W : World) (hb : Below w.heap.size w W) (h : Lies W W.heap.size 1 a zs.length (ints zs)) => impl_LastIndexFunc a zs.length c zs a2 a0 W (by omega) (HT.out.below hb) h hzle)
  have CS := Lib.hid (fun (a : Option Addr) (c : Nat) (W : World) (h : Lies W W.heap.size 1 a zs.length (ints zs)) => spec_ContainsFunc a zs.length c zs a2 a0 W (by omega) h hzle)
  generalize (fun x : Nat => holdB zs a2 x) = p at *
  go_enter Tryd.func5, Tryd.ntmps5
  go_wp2_with fail
  refine (laws_test _ _ _ zs _ _ HN.out HL.out hlen).mono ?_; rintro e w1' ⟨a', c', rfl, hl1, hb1⟩
  have hk := TK.new (nt := a2) (c := c') hl1 hb1
  obtain ⟨wa, hwa⟩ : ∃ wa, w1'.alloc (.cells #[.slice a' zs.length c', .bool a2] 27) = wa := ⟨_, rfl⟩
  rw [hwa] at hk
  generalize hX : w1'.heap.size = X at *
  obtain ⟨y0, y1⟩ := hk.cells
  have K := Lib.hid hk.drew
  clear hk hl1 hb1 HL HN hlen
  have hxl : X < wa.heap.size := heap_lt K.out.x
  go_wp2_with fail
  clear hwa
  rcases HEF.out with ⟨hf, hla⟩ | ⟨i, k, n, hF⟩
  · have HF := Lib.hid hf; have HLA := Lib.hid hla
    clear hf hla HEF
    go_region_held3 (fun w' => w'.cell? ⟨X, 0, none⟩ = some (.slice a' zs.length c') ∧ w'.cell? ⟨X, 1, none⟩ = some (.bool a2)) (first | go_keep | exact K.out.cells)
      (first | (go_at_call 17; refine (CI.out a0 a' c' _ (by exact K.out.l)).mono ?_; rintro e w2 ⟨rfl, hb2⟩; rw [HF.out]; have K := Lib.hid (K.out.later hb2); clear hb2) | (go_at_call 12; refine (CL.out a' c' _ (by exact K.out.b) (by exact K.out.l)).mono ?_; rintro e w3 ⟨rfl, hb3⟩; rw [HLA.out]; have K := Lib.hid (K.out.later hb3); clear hb3) | (go_at_call 18; refine (CC.out a' c' _ (by exact K.out.l)).mono ?_; rintro e w4 ⟨rfl, hb4⟩; rw [HF.out]; have K := Lib.hid (K.out.later hb4); clear hb4))
    clear y0 y1
    obtain ⟨y0, y1⟩ := K.out.cells
    go_wp2_with fail
    refine (CS.out a' c' _ K.out.l).mono ?_; rintro e w5 ⟨rfl, hb5⟩; rw [HF.out]
    have K := Lib.hid (K.out.later hb5); clear hb5 y0 y1
    go_wp2_with fail
    go_ret
    exact ⟨rfl, K.out.b⟩
  · have HF := Lib.hid hF.first; have HLA := Lib.hid hF.last
    have hik := hF.le; have hn1 := hF.pos; have hfit := hF.fit
    have HA := Lib.hid hF.ahead; have HH := Lib.hid hF.here; have HBH := Lib.hid hF.behind
    have HSZ := Lib.hid (show sizeP (a0.extract k a0.size) = n from hF.size)
    clear HEF hF
    go_region_held3 (fun w' => w'.cell? ⟨X, 0, none⟩ = some (.slice a' zs.length c') ∧ w'.cell? ⟨X, 1, none⟩ = some (.bool a2)) (first | go_keep | exact K.out.cells)
      (first | (go_at_call 17; refine (CI.out a0 a' c' _ (by exact K.out.l)).mono ?_; rintro e w2 ⟨rfl, hb2⟩; rw [HF.out]; have K := Lib.hid (K.out.later hb2); clear hb2) | (go_at_call 12; refine (CL.out a' c' _ (by exact K.out.b) (by exact K.out.l)).mono ?_; rintro e w3 ⟨rfl, hb3⟩; rw [HLA.out]; have K := Lib.hid (K.out.later hb3); clear hb3) | (go_at_call 18; refine (CC.out a' c' _ (by exact K.out.l)).mono ?_; rintro e w4 ⟨rfl, hb4⟩; rw [HF.out]; have K := Lib.hid (K.out.later hb4); clear hb4))
    clear y0 y1
    obtain ⟨y0, y1⟩ := K.out.cells
    have hi0 : decide (0 ≤ (i : Int)) = true := by simp
    have hb1 : (0 : Int) ≤ (i : Int) := by omega
    have hb2 : (i : Int) ≤ (a0.size : Int) := by omega
    have hb3 : (0 : Int) ≤ (k : Int) := by omega
    have hb4 : (k : Int) ≤ (a0.size : Int) := by omega
    have hes : (a0.extract k a0.size).size ≤ 1099511627776 := by simp; omega
    go_wp2_with fail
    refine (spec_Size (a0.extract k a0.size) _ hes).mono ?_; rintro e w5 ⟨rfl, hb5⟩; rw [HSZ.out]
    have K := Lib.hid (K.out.later hb5); clear hb5 y0 y1
    obtain ⟨y0, y1⟩ := K.out.cells
    have K := Lib.hid K.out.drew
    go_wp2_with fail
    go_region_held3 (fun w' => w'.cell? ⟨X, 0, none⟩ = some (.slice a' zs.length c') ∧ w'.cell? ⟨X, 1, none⟩ = some (.bool a2)) (first | go_keep | exact K.out.cells)
      (first | (go_at_call 17; refine (CI.out _ a' c' _ (by exact K.out.l)).mono ?_; rintro e w6 ⟨rfl, hb6⟩; (first | rw [HA.out] | rw [HH.out] | rw [HBH.out]); have K := Lib.hid (K.out.later hb6); clear hb6))
    go_wp2_with fail
    go_ret
    exact ⟨rfl, K.out.b⟩

theorem contract (H : Type) (enc : TypeId × Value → H) (W : World) (base : Nat) (args : Array Value) (ds gs : List (DataW H)) (before : List MemPlace)
    (hval0 : ∀ (j : Nat) t v, Tryd.f5.params[j]? = some t → args[j]? = some v → Value.okWide Tryd.prog W .any base t v)
    (hW : DataW.Whole enc Tryd.prog Tryd.f5.params.toList Rows.fnIndexFuncFirstSpec.vars false W args.toList ds gs before)
    (hsz0 : (DataW.weightsEach Tryd.prog (Tryd.f5.params.toList ++ Rows.fnIndexFuncFirstSpec.plain.varTypes Tryd.prog) (ds ++ gs)).all (· ≤ reachBytes) = true) (hk : Rows.uptoSmall H (ds ++ gs) = true) (hL : laidMetH Tryd.prog Rows.fnIndexFuncFirstUptoRow.laid W) :
    Calls Tryd.prog 5 args W fun e W' => ∃ v, e = .returned v ∧ Rows.fnIndexFuncFirstSpec.post enc Tryd.prog Tryd.f5 false true false false W args v W' := by
  have hval := hval0
  have hsz := hsz0
  clear hval0 hsz0
  have hW' := hW
  obtain ⟨p, q, hA0, hV, rfl, hfz, hnd⟩ := hW
  have hA : DataW.TrodAll enc Tryd.prog W 0 (fun _ => true) true Tryd.f5.params.toList args.toList ds p := hA0
  rw [Tryd.params5] at hA hval hsz
  obtain ⟨v0, vs0, d0, ds0, p0, q0, hargs, rfl, rfl, h0, r0x⟩ := trodAll_cons hA
  obtain ⟨v1, vs1, d1, ds1, p1, q1, rfl, rfl, rfl, h1, r1x⟩ := trodAll_cons r0x
  obtain ⟨v2, vs2, d2, ds2, p2, q2, rfl, rfl, rfl, h2, r2x⟩ := trodAll_cons r1x
  obtain ⟨rfl, rfl, rfl⟩ := trodAll_nil r2x
  obtain rfl : args = #[v0, v1, v2] := by cases args; simp_all
  obtain ⟨rfl, rfl⟩ := trodVars_none hV
  have hbulk := of_decide_eq_true hk
  obtain ⟨a0, rfl, rfl, rfl, x0⟩ := open_string Tryd.underlying9 (hval 0 9 v0 rfl rfl) h0
  obtain ⟨a1, len1, cap1, rfl⟩ := okWide_slice Tryd.underlying22 (hval 1 22 v1 rfl rfl)
  have k1 := h1
  have lt1 : ∀ x ∈ p1, x.block < W.heap.size := by obtain ⟨m, hm⟩ := k1; exact DataW.trod_lt m _ _ _ hm
  obtain ⟨z1, w1, r1⟩ : ∃ zs, IsRow .i32 W a1 len1 cap1 zs ∧ cap1 ≤ 1048576 := by
    obtain ⟨fuel, hf⟩ := h1
    rcases open_ints Tryd.underlying22 Tryd.underlying21 (by kernel_rfl) hf with ⟨hcs, _⟩ | ⟨x, l, c, zs, hcs, _, hl, hm, hz, hd, hcell, hwz⟩
    · simp [Value.cells] at hcs
      obtain ⟨rfl, rfl, rfl⟩ := hcs
      exact ⟨[], .inl ⟨rfl, rfl, rfl, rfl⟩, by omega⟩
    · simp [Value.cells] at hcs
      obtain ⟨rfl, rfl, rfl⟩ := hcs
      simp only [if_true] at hz
      simp only [Prod.mk.injEq] at hd
      refine ⟨zs, .inr ⟨_, rfl, hl, hm, hz, hcell, hwz⟩, ?_⟩
      obtain ⟨hd, -⟩ := hd
      subst hd
      simp only [Rows.uptoBulkAll, Rows.uptoBulk, List.append_nil] at hbulk
      have e1 := bulk_len .i32 (H := H) (zs.take len1)
      have e2 := bulk_len .i32 (H := H) (zs.drop len1)
      simp only [List.length_take, List.length_drop] at e1 e2
      omega
  obtain ⟨a2, rfl, rfl, rfl⟩ := open_bool Tryd.underlying4 (hval 2 4 v2 rfl rfl) h2
  clear hA0
  have w0 : a0.size ≤ 1048576 := by
    simp only [Rows.uptoBulkAll, Rows.uptoBulk, List.append_nil] at hbulk
    have e : a0.data.toList.length = a0.size := by rw [Array.length_toList]; rfl
    omega
  refine (walk a0 a1 len1 cap1 z1 a2 W w0 w1 r1 (tabs_of hL (by unfold Rows.fnIndexFuncFirstUptoRow; simp) (by unfold Rows.fnIndexFuncFirstUptoRow; simp))).mono fun e W' ⟨he, bel⟩ => ?_
  subst he
  exact ⟨_, rfl, _, _, _, [], _, [], hW', trodAll_mk1 (shut_bool Tryd.underlying4 _), (trodAll_cons_mk (shut_string Tryd.underlying9 x0) (trodAll_cons_mk (Below.trod laidOut (by kernel_rfl) (of_decide_eq_true (by kernel_rfl)) k1 bel lt1) (trodAll_cons_mk (shut_bool Tryd.underlying4 _) trodAll_mk0))), rfl, bel.frame _, fun h => by cases h⟩

theorem laid_met (os : Os) : laidMet Tryd.prog Rows.fnIndexFuncFirstUptoRow.laid ((laidWorld os).forCall (fun _ _ => 0) ⟨#[], #[.string ByteArray.empty, .slice none 0 0, .bool false], []⟩).memory :=
  laidMet_of_run' 8 (by kernel_rfl) (by kernel_rfl)
theorem reads (os : Os) {H : Type} (enc : TypeId × Value → H) : ∃ places, DataW.whole enc Tryd.prog ((laidWorld os).forCall (fun _ _ => 0) ⟨#[], #[.string ByteArray.empty, .slice none 0 0, .bool false], []⟩).memory Tryd.f5.params.toList Rows.fnIndexFuncFirstSpec.vars false (#[.string ByteArray.empty, .slice none 0 0, .bool false] : Array Value).toList 8 = some ([.lit (.string []), .nil, .lit (.bool false)], [], places) :=
  ⟨[], by kernel_rfl⟩
set_option maxRecDepth 100000 in
theorem lifted (os : Os) (started : os.Started) (H : Type) (enc : TypeId × Value → H) (F : Stop.Interp) :
    ReturnsInHanded {} Tryd.checked os 5 .any ((Rows.OpenSpec.upto Rows.fnIndexFuncFirstSpec).preRow enc Tryd.prog Tryd.f5 Rows.fnIndexFuncFirstUptoRow.domain false Rows.fnIndexFuncFirstUptoRow.laid) (((Rows.OpenSpec.upto Rows.fnIndexFuncFirstSpec).at F).post enc Tryd.prog Tryd.f5 false true false false) := by
  obtain ⟨places, hx⟩ := reads os enc
  refine returnsInHanded_of_row (C := Tryd.checked) (s := Rows.OpenSpec.upto Rows.fnIndexFuncFirstSpec) own started (by kernel_rfl) Tryd.func5
    (witness_row_at (enc := enc) (C := Tryd.checked) false (laidWorld os) #[.string ByteArray.empty, .slice none 0 0, .bool false] rfl (by kernel_rfl) (by kernel_rfl) (by kernel_rfl)
      (OpenSpec.preRow_of_cond 8 hx (by kernel_rfl) (fun k hk => by cases hk; kernel_rfl) (by kernel_rfl) (laid_met os))) ?_
  intro W base args ds gs before hval0 hW _ hcond hsz0 hL _ _
  exact contract H enc W base args ds gs before hval0 hW hsz0 (hcond _ rfl) hL

theorem said : Rows.FnIndexFuncFirstUptoSaid :=
  OpenClaim.holds_of_cond 5 Tryd.f5 rfl rfl rfl rfl rfl rfl rfl ⟨rfl, rfl, rfl, rfl, rfl⟩ rfl rfl rfl rfl rfl (by kernel_rfl) Tryd.func5 (by kernel_rfl)
    (of_decide_eq_true (by kernel_rfl)) (by unfold Func.isWrapper; first | (rw [if_pos (by decide +kernel)]; kernel_rfl) | (rw [if_neg (by decide +kernel)]; exact ⟨rfl, rfl⟩))
    (fun os started H enc _ F => by rw [OpenClaim.pre_eq_preRow]; exact lifted os started H enc F)

theorem plain (f : FuncId) (fn : Func) (hf : Tryd.pinned.checked.prog.funcNamed Rows.fnIndexFuncFirstUptoRow.func = some f) (hfn : Tryd.pinned.checked.prog.funcs[f]? = some fn) :
    false = Tryd.pinned.checked.prog.looks [] ∧ ∀ (j : Nat) t, fn.params[j]? = some t → Tryd.pinned.checked.prog.wantsStandIn t = false := by
  obtain rfl : f = 5 := Option.some.inj ((show Tryd.prog.funcNamed Rows.fnIndexFuncFirstUptoRow.func = some 5 by kernel_rfl).symm.trans hf) |>.symm
  obtain rfl : fn = Tryd.f5 := (Option.some.inj (Tryd.func5.symm.trans hfn)).symm
  refine ⟨by kernel_rfl, fun j t ht => ?_⟩
  rw [Tryd.params5] at ht
  have hm := Array.mem_of_getElem? ht
  simp only [List.mem_toArray, List.mem_cons, List.mem_nil_iff, or_false] at hm
  rcases hm with rfl | rfl | rfl
  · exact (show Tryd.prog.wantsStandIn 9 = false by kernel_rfl)
  · exact (show Tryd.prog.wantsStandIn 22 = false by kernel_rfl)
  · exact (show Tryd.prog.wantsStandIn 4 = false by kernel_rfl)

theorem proved : Rows.FnIndexFuncFirstUptoCardSaid :=
  Claim7.holds_tied_plain_at .later [] _ _ _ _ said (fun _ h => by cases h) (by kernel_rfl) (fun _ h => by cases h) fnIndexFuncFirstUpto_row_tie rfl ⟨rfl, rfl⟩ (by kernel_rfl) rfl plain (by kernel_rfl)
#print axioms proved
end Go.Proofs.YtehjbmijbgonkaaDoor.fnIndexFuncFirstUpto
