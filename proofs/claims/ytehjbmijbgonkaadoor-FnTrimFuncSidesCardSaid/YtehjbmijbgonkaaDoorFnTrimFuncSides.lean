/-
  For every text, list of runes and flag the law FnTrimFuncSides returns true and changes nothing. No condition.
-/
import Derived.Test.YtehjbmijbgonkaaDoorCards
import Derived.Test.YtehjbmijbgonkaaDoorTie
import Derived.Test.YtehjbmijbgonkaaDoorTabs
import Derived.Test.YtehjbmijbgonkaaDoorLastF
import Derived.Test.YtehjbmijbgonkaaDoorSides
import Derived.Test.YtehjbmijbgonkaaDoorHold
import Derived.Deep.RegionHeld3
import Derived.WalkKit
import Derived.ProofKit
import Derived.OpenShut
import Derived.ShutString
import Derived.ChangeOld
import Derived.Below
import Derived.SizedLaws
import Derived.Lib.SmallJoins
import Derived.Deep.CondSized
import Derived.Deep.DeepHandedRow
import Derived.Deep.DeepWitnessRowRef
namespace Go.Proofs.YtehjbmijbgonkaaDoor.fnTrimFuncSides
open Go.ChangeShapes Go.WideShapes Go.ChangeAt Go.RowKit Go.Joins
open Go.ChangeMaps (open_string shut_string)
set_option linter.unusedVariables false

theorem own : ownKnob Tryd.prog.godebug = none := by kernel_rfl
theorem laidOut : laidOutB Tryd.prog = true := by kernel_rfl
theorem hold_not (zs : List Int) (b : Bool) (s : List UInt8) : firstAt (fun x => holdB zs (!b) x) (pcs 0 s) = firstAt (fun x => !holdB zs b x) (pcs 0 s) := first_congr (fun x => by unfold holdB; split <;> simp) _
set_option maxHeartbeats 1000000 in
theorem walk (a0 : ByteArray) (a1 : Option Addr) (len1 cap1 : Nat) (z1 : List Int) (a2 : Bool) (w : World) (w0 : a0.size ≤ 140737488351232) (w1 : IsRow .i32 w a1 len1 cap1 z1) (r1 : cap1 ≤ 35184372087808) (hT : Tabs w) :
    Calls Tryd.prog 7 #[.string a0, .slice a1 len1 cap1, .bool a2] w fun e w' => e = .returned (.bool true) ∧ Below w.heap.size w w' := by
  have HT := Lib.hid hT; clear hT
  have hl := w1.lies
  have hn1 : a1 = none → len1 = 0 := fun h => by rcases w1 with ⟨_, h, _⟩ | ⟨x, h', _⟩; exact h; rw [h] at h'; cases h'
  have hle := w1.le
  generalize hzz : z1.take len1 = zs at *
  have hl' : Lies w w.heap.size 1 a1 len1 (ints zs) := hl
  clear hl
  have HL := Lib.hid hl'
  have HN := Lib.hid hn1
  have hlen : len1 ≤ 35184372088832 := by omega
  have hzle : zs.length ≤ 70368744177664 := by have := HL.out.1; simp [ints] at this; omega
  clear hl' hn1 hzz w1 hle r1
  obtain ⟨p, hp⟩ : ∃ p : Nat → Bool, (fun x : Nat => holdB zs a2 x) = p := ⟨_, rfl⟩
  have hF := trim_facts p a0
  have hsL := trimLeftF_size p a0
  rw [trimLeft_is] at hsL
  have CI := Lib.hid (fun (s : ByteArray) (a : Option Addr) (c : Nat) (W : World) (h : Lies W W.heap.size 1 a zs.length (ints zs)) => (impl_IndexFunc a zs.length c zs (!a2) s W h hzle).mono (R' := fun e w' => e = .returned (.int .i64 (firstAt (fun x => !p x) (pcs 0 s.data.toList))) ∧ Below W.heap.size W w') (fun e w' h => by rw [idx_true, hold_not] at h; rw [← hp]; exact h))
  have CTL := Lib.hid (fun (s : ByteArray) (a : Option Addr) (c : Nat) (W : World) (h : Lies W W.heap.size 1 a zs.length (ints zs)) => (impl_TrimLeftFunc a zs.length c zs a2 s W h hzle).mono (R' := fun e w' => e = .returned (.string (trimL (fun x => holdB zs a2 x) s)) ∧ Below W.heap.size W w') (fun e w' h => by rw [trimLeft_is] at h; exact h))
  have CTR := Lib.hid (fun (s : ByteArray) (hs : s.size ≤ 4611686018427387904) (a : Option Addr) (c : Nat) (W : World) (hb : Below w.heap.size w W) (h : Lies W W.heap.size 1 a zs.length (ints zs)) => impl_TrimRightFunc a zs.length c zs a2 s W hs (HT.out.below hb) h hzle)
  have CTF := Lib.hid (fun (s : ByteArray) (hs : s.size ≤ 4611686018427387904) (a : Option Addr) (c : Nat) (W : World) (hb : Below w.heap.size w W) (h : Lies W W.heap.size 1 a zs.length (ints zs)) => impl_TrimFunc a zs.length c zs a2 s W hs (HT.out.below hb) h hzle)
  rw [hp] at CTL CTR CTF
  clear hp
  have hsR : (trimR p (trimL p a0)).size ≤ a0.size := by
    have : (trimR p (trimL p a0)).size ≤ (trimL p a0).size := by
      unfold trimR; rw [Lib.size_eq, Lib.extract_data, List.length_take, List.length_drop, ← Lib.size_eq]; omega
    omega
  have HO := Lib.hid hF.other; have HAg := Lib.hid hF.again; have HNo := Lib.hid hF.none; have HHd := Lib.hid hF.head; have HSm := Lib.hid hF.sum
  clear hF
  have hs0 : a0.size ≤ 4611686018427387904 := by omega
  have hs1 : (trimL p a0).size ≤ 4611686018427387904 := by omega
  have hs2 : (trimR p (trimL p a0)).size ≤ 4611686018427387904 := by omega
  go_enter Tryd.func7, Tryd.ntmps7
  go_wp2_with fail
  refine (laws_test _ _ _ zs _ _ HN.out HL.out hlen).mono ?_; rintro e w1' ⟨a', c', rfl, hl1, hb1⟩
  have B1 := Lib.hid hb1; have L1 := Lib.hid hl1
  clear hb1 hl1
  go_wp2_with fail
  refine (laws_test _ _ _ zs _ _ HN.out (HL.out.later B1.out) hlen).mono ?_; rintro e w2' ⟨a'', c'', rfl, hl2, hb2⟩
  have B2 := Lib.hid (B1.out.trans (hb2.mono B1.out.size))
  have hk := (TK.new (nt := a2) (c := c') (L1.out.later hb2) B2.out).alloc (.cells #[.slice a'' zs.length c'', .bool (!a2)] 27)
  have hq := TK.new (nt := !a2) (c := c'') (hl2.later ((Below.refl _ w2').alloc (Nat.le_refl _) (.cells #[.slice a' zs.length c', .bool a2] 27))) (B2.out.alloc B2.out.size _)
  obtain ⟨wa, hwa⟩ : ∃ wa, (w2'.alloc (.cells #[.slice a' zs.length c', .bool a2] 27)).alloc (.cells #[.slice a'' zs.length c'', .bool (!a2)] 27) = wa := ⟨_, rfl⟩
  rw [World.size_alloc] at hq
  rw [hwa] at hk hq
  generalize hX : w2'.heap.size = X at *
  obtain ⟨y0, y1⟩ := hk.cells
  obtain ⟨q0, q1⟩ := hq.cells
  have hxl : X + 1 < wa.heap.size := heap_lt hq.x
  have K := Lib.hid hk.drew
  have G := Lib.hid hq.drew
  clear hk hq hl2 hb2 HL HN hlen B1 B2 L1
  go_wp2_with fail
  clear hwa
  go_region_held3 (fun w' => w'.cell? ⟨X, 0, none⟩ = some (.slice a' zs.length c') ∧ w'.cell? ⟨X, 1, none⟩ = some (.bool a2)) (first | go_keep | exact K.out.cells)
    (first | (go_at_call 23; refine (CTL.out a0 a' c' _ (by exact K.out.l)).mono ?_; rintro e w2 ⟨rfl, hb2⟩; have K := Lib.hid (K.out.later hb2); have G := Lib.hid (G.out.later hb2); clear hb2) | (go_at_call 15; refine (CTR.out a0 hs0 a' c' _ (by exact K.out.b) (by exact K.out.l)).mono ?_; rintro e w3 ⟨rfl, hb3⟩; have K := Lib.hid (K.out.later hb3); have G := Lib.hid (G.out.later hb3); clear hb3) | (go_at_call 22; refine (CTF.out a0 hs0 a' c' _ (by exact K.out.b) (by exact K.out.l)).mono ?_; rintro e w4 ⟨rfl, hb4⟩; have K := Lib.hid (K.out.later hb4); have G := Lib.hid (G.out.later hb4); clear hb4))
  clear y0 y1 q0 q1
  obtain ⟨y0, y1⟩ := K.out.cells
  go_wp2_with fail
  refine (CTR.out _ hs1 a' c' _ K.out.b K.out.l).mono ?_; rintro e w5 ⟨rfl, hb5⟩; have K := Lib.hid (K.out.later hb5); have G := Lib.hid (G.out.later hb5); clear hb5; clear y0 y1
  obtain ⟨y0, y1⟩ := K.out.cells
  go_wp2_with fail
  refine (CTL.out _ a' c' _ K.out.l).mono ?_; rintro e w6 ⟨rfl, hb6⟩; have K := Lib.hid (K.out.later hb6); have G := Lib.hid (G.out.later hb6); clear hb6; clear y0 y1; rw [HO.out]
  obtain ⟨y0, y1⟩ := K.out.cells
  go_wp2_with fail
  refine (CTF.out _ hs2 a' c' _ K.out.b K.out.l).mono ?_; rintro e w7 ⟨rfl, hb7⟩; have K := Lib.hid (K.out.later hb7); have G := Lib.hid (G.out.later hb7); clear hb7; clear y0 y1; rw [HAg.out]
  obtain ⟨y0, y1⟩ := G.out.cells
  by_cases hz : (trimR p (trimL p a0)).size = 0
  · have he : (trimR p (trimL p a0)).toList.isEmpty = true := by
      rw [Lib.toList_data, List.isEmpty_iff, ← List.length_eq_zero_iff, len_data]; exact hz
    have HF := Lib.hid (HNo.out hz)
    clear hz
    go_wp2_with fail
    refine (CI.out _ a'' c'' _ G.out.l).mono ?_; rintro e w8 ⟨rfl, hb8⟩; rw [HF.out]; have K := Lib.hid (K.out.later hb8); have G := Lib.hid (G.out.later hb8); clear hb8
    go_wp2_with fail
    go_ret
    exact ⟨rfl, K.out.b⟩
  · have he : (trimR p (trimL p a0)).toList.isEmpty = false := by
      rw [Lib.toList_data]; cases h : (trimR p (trimL p a0)).data.toList
      · rw [← len_data, h] at hz; simp at hz
      · rfl
    have HF := Lib.hid (HHd.out hz)
    have hsm := HSm.out hz
    generalize hN : firstAt (fun x => !p x) (pcs 0 a0.data.toList) = N at *
    have HNN := Lib.hid hN
    have hn0 : 0 ≤ N := by omega
    have hn1 : N ≤ 4611686018427387904 := by omega
    have hb : (N + ((trimL p a0).size : Int) == (a0.size : Int)) = true := by rw [hsm]; simp
    clear hz hN hsm
    go_wp2_with fail
    refine (CI.out _ a'' c'' _ G.out.l).mono ?_; rintro e w8 ⟨rfl, hb8⟩; rw [HF.out]; have K := Lib.hid (K.out.later hb8); have G := Lib.hid (G.out.later hb8); clear hb8; clear y0 y1
    obtain ⟨y0, y1⟩ := G.out.cells
    go_wp2_with fail
    refine (CI.out _ a'' c'' _ G.out.l).mono ?_; rintro e w9 ⟨rfl, hb9⟩; rw [HNN.out]; have K := Lib.hid (K.out.later hb9); have G := Lib.hid (G.out.later hb9); clear hb9; clear y0 y1
    go_wp2_with fail
    go_ret
    exact ⟨rfl, K.out.b⟩

theorem contract (H : Type) (enc : TypeId × Value → H) (W : World) (base : Nat) (args : Array Value) (ds gs : List (DataW H)) (before : List MemPlace)
    (hval0 : ∀ (j : Nat) t v, Tryd.f7.params[j]? = some t → args[j]? = some v → Value.okWide Tryd.prog W .any base t v)
    (hW : DataW.Whole enc Tryd.prog Tryd.f7.params.toList Rows.fnTrimFuncSidesSpec.vars false W args.toList ds gs before)
    (hsz0 : (DataW.weightsEach Tryd.prog (Tryd.f7.params.toList ++ Rows.fnTrimFuncSidesSpec.plain.varTypes Tryd.prog) (ds ++ gs)).all (· ≤ reachBytes) = true) (hL : laidMetH Tryd.prog Rows.fnTrimFuncSidesRow.laid W) :
    Calls Tryd.prog 7 args W fun e W' => ∃ v, e = .returned v ∧ Rows.fnTrimFuncSidesSpec.post enc Tryd.prog Tryd.f7 false true false false W args v W' := by
  have hval := hval0
  have hsz := hsz0
  clear hval0 hsz0
  have hW' := hW
  obtain ⟨p, q, hA0, hV, rfl, hfz, hnd⟩ := hW
  have hA : DataW.TrodAll enc Tryd.prog W 0 (fun _ => true) true Tryd.f7.params.toList args.toList ds p := hA0
  rw [Tryd.params7] at hA hval hsz
  obtain ⟨v0, vs0, d0, ds0, p0, q0, hargs, rfl, rfl, h0, r0x⟩ := trodAll_cons hA
  obtain ⟨v1, vs1, d1, ds1, p1, q1, rfl, rfl, rfl, h1, r1x⟩ := trodAll_cons r0x
  obtain ⟨v2, vs2, d2, ds2, p2, q2, rfl, rfl, rfl, h2, r2x⟩ := trodAll_cons r1x
  obtain ⟨rfl, rfl, rfl⟩ := trodAll_nil r2x
  obtain rfl : args = #[v0, v1, v2] := by cases args; simp_all
  obtain ⟨rfl, rfl⟩ := trodVars_none hV
  obtain ⟨a0, rfl, rfl, rfl, x0⟩ := open_string Tryd.underlying9 (hval 0 9 v0 rfl rfl) h0
  obtain ⟨a1, len1, cap1, rfl⟩ := okWide_slice Tryd.underlying22 (hval 1 22 v1 rfl rfl)
  have k1 := h1
  have lt1 : ∀ x ∈ p1, x.block < W.heap.size := by obtain ⟨m, hm⟩ := k1; exact DataW.trod_lt m _ _ _ hm
  obtain ⟨z1, w1, r1⟩ : ∃ zs, IsRow .i32 W a1 len1 cap1 zs ∧ cap1 ≤ 35184372087808 := by
    obtain ⟨fuel, hf⟩ := h1
    rcases open_ints Tryd.underlying22 Tryd.underlying21 (by kernel_rfl) hf with ⟨hcs, _⟩ | ⟨x, l, c, zs, hcs, _, hl, hm, hz, hd, hcell, hwz⟩
    · simp [Value.cells] at hcs
      obtain ⟨rfl, rfl, rfl⟩ := hcs
      exact ⟨[], .inl ⟨rfl, rfl, rfl, rfl⟩, by omega⟩
    · simp [Value.cells] at hcs
      obtain ⟨rfl, rfl, rfl⟩ := hcs
      simp only [if_true] at hz
      simp only [Prod.mk.injEq] at hd
      refine ⟨zs, .inr ⟨_, rfl, hl, hm, hz, hcell, hwz⟩, ?_⟩
      obtain ⟨hd, -⟩ := hd
      subst hd
      have hb := sized_slice hsz (j := 1) (t := 22) (e := 21) rfl rfl Tryd.underlying22
      rw [show Tryd.prog.bytesOf 21 = 4 by kernel_rfl] at hb
      simp [lits, reachBytes] at hb
      omega
  obtain ⟨a2, rfl, rfl, rfl⟩ := open_bool Tryd.underlying4 (hval 2 4 v2 rfl rfl) h2
  clear hA0
  have w0 : a0.size ≤ 140737488351232 := by have := sized_string hsz (j := 0) (t := 9) rfl rfl; simpa [reachBytes] using this
  refine (walk a0 a1 len1 cap1 z1 a2 W w0 w1 r1 (tabs_of hL (by unfold Rows.fnTrimFuncSidesRow; simp) (by unfold Rows.fnTrimFuncSidesRow; simp))).mono fun e W' ⟨he, bel⟩ => ?_
  subst he
  exact ⟨_, rfl, _, _, _, [], _, [], hW', trodAll_mk1 (shut_bool Tryd.underlying4 _), (trodAll_cons_mk (shut_string Tryd.underlying9 x0) (trodAll_cons_mk (Below.trod laidOut (by kernel_rfl) (of_decide_eq_true (by kernel_rfl)) k1 bel lt1) (trodAll_cons_mk (shut_bool Tryd.underlying4 _) trodAll_mk0))), rfl, bel.frame _, fun h => by cases h⟩

theorem laid_met (os : Os) : laidMet Tryd.prog Rows.fnTrimFuncSidesRow.laid ((laidWorld os).forCall (fun _ _ => 0) ⟨#[], #[.string ByteArray.empty, .slice none 0 0, .bool false], []⟩).memory :=
  laidMet_of_run' 8 (by kernel_rfl) (by kernel_rfl)
theorem reads (os : Os) {H : Type} (enc : TypeId × Value → H) : ∃ places, DataW.whole enc Tryd.prog ((laidWorld os).forCall (fun _ _ => 0) ⟨#[], #[.string ByteArray.empty, .slice none 0 0, .bool false], []⟩).memory Tryd.f7.params.toList Rows.fnTrimFuncSidesSpec.vars false (#[.string ByteArray.empty, .slice none 0 0, .bool false] : Array Value).toList 8 = some ([.lit (.string []), .nil, .lit (.bool false)], [], places) :=
  ⟨[], by kernel_rfl⟩
set_option maxRecDepth 100000 in
theorem lifted (os : Os) (started : os.Started) (H : Type) (enc : TypeId × Value → H) (F : Stop.Interp) :
    ReturnsInHanded {} Tryd.checked os 7 .any ((OpenSpec.ofChange Rows.fnTrimFuncSidesSpec).preRow enc Tryd.prog Tryd.f7 Rows.fnTrimFuncSidesRow.domain false Rows.fnTrimFuncSidesRow.laid) (((OpenSpec.ofChange Rows.fnTrimFuncSidesSpec).at F).post enc Tryd.prog Tryd.f7 false true false false) := by
  obtain ⟨places, hx⟩ := reads os enc
  refine returnsInHanded_of_row (C := Tryd.checked) (s := OpenSpec.ofChange Rows.fnTrimFuncSidesSpec) own started (by kernel_rfl) Tryd.func7
    (witness_row_at (enc := enc) (C := Tryd.checked) false (laidWorld os) #[.string ByteArray.empty, .slice none 0 0, .bool false] rfl (by kernel_rfl) (by kernel_rfl) (by kernel_rfl)
      (OpenSpec.preRow_of_cond 8 hx (by kernel_rfl) (fun k hk => by cases hk) (by kernel_rfl) (laid_met os))) ?_
  intro W base args ds gs before hval0 hW _ hcond hsz0 hL _ _
  exact contract H enc W base args ds gs before hval0 hW hsz0 hL

theorem said : Rows.FnTrimFuncSidesSaid :=
  OpenClaim.holds_of_cond 7 Tryd.f7 rfl rfl rfl rfl rfl rfl rfl ⟨rfl, rfl, rfl, rfl, rfl⟩ rfl rfl rfl rfl rfl (by kernel_rfl) Tryd.func7 (by kernel_rfl)
    (of_decide_eq_true (by kernel_rfl)) (by unfold Func.isWrapper; first | (rw [if_pos (by decide +kernel)]; kernel_rfl) | (rw [if_neg (by decide +kernel)]; exact ⟨rfl, rfl⟩))
    (fun os started H enc _ F => by rw [OpenClaim.pre_eq_preRow]; exact lifted os started H enc F)

theorem plain (f : FuncId) (fn : Func) (hf : Tryd.pinned.checked.prog.funcNamed Rows.fnTrimFuncSidesRow.func = some f) (hfn : Tryd.pinned.checked.prog.funcs[f]? = some fn) :
    false = Tryd.pinned.checked.prog.looks [] ∧ ∀ (j : Nat) t, fn.params[j]? = some t → Tryd.pinned.checked.prog.wantsStandIn t = false := by
  obtain rfl : f = 7 := Option.some.inj ((show Tryd.prog.funcNamed Rows.fnTrimFuncSidesRow.func = some 7 by kernel_rfl).symm.trans hf) |>.symm
  obtain rfl : fn = Tryd.f7 := (Option.some.inj (Tryd.func7.symm.trans hfn)).symm
  refine ⟨by kernel_rfl, fun j t ht => ?_⟩
  rw [Tryd.params7] at ht
  have hm := Array.mem_of_getElem? ht
  simp only [List.mem_toArray, List.mem_cons, List.mem_nil_iff, or_false] at hm
  rcases hm with rfl | rfl | rfl
  · exact (show Tryd.prog.wantsStandIn 9 = false by kernel_rfl)
  · exact (show Tryd.prog.wantsStandIn 22 = false by kernel_rfl)
  · exact (show Tryd.prog.wantsStandIn 4 = false by kernel_rfl)

theorem proved : Rows.FnTrimFuncSidesCardSaid :=
  Claim7.holds_tied_plain_at .later [] _ _ _ _ said (fun _ h => by cases h) (by kernel_rfl) (fun _ h => by cases h) fnTrimFuncSides_row_tie rfl ⟨rfl, rfl⟩ (by kernel_rfl) rfl plain (by kernel_rfl)
#print axioms proved
end Go.Proofs.YtehjbmijbgonkaaDoor.fnTrimFuncSides
