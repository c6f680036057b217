/-
  For every text, list of runes and flag the law FnFieldsFuncTrim returns true and changes nothing. Condition: what comes in is of bulk at most 1048576 (the second form).
-/
import Derived.Test.YteiginpjahmppaaDoorCards
import Derived.Test.YteiginpjahmppaaDoorTie
import Derived.Test.YteiginpjahmppaaDoorTabs
import Derived.Test.YteiginpjahmppaaDoorFieldsI
import Derived.Test.YteiginpjahmppaaDoorLastF
import Derived.Test.YteiginpjahmppaaDoorLastS
import Derived.Test.YteiginpjahmppaaDoorHold
import Derived.Test.YteiginpjahmppaaDoorWords
import Derived.Test.YteiginpjahmppaaDoorSame
import Derived.Test.YteiginpjahmppaaDoorImplHP
import Derived.Deep.RegionHeld3
import Derived.WalkKit
import Derived.ProofKit
import Derived.OpenShut
import Derived.ShutString
import Derived.ChangeOld
import Derived.Below
import Derived.SizedLaws
import Derived.Lib.SmallJoins
import Derived.Deep.CondSized
import Derived.Deep.DeepHandedRow
import Derived.Deep.DeepWitnessRowRef
namespace Go.Proofs.YteiginpjahmppaaDoor.fnFieldsFuncTrimUpto
open Go.ChangeShapes Go.WideShapes Go.ChangeAt Go.RowKit Go.Joins
open Go.ChangeMaps (open_string shut_string)
set_option linter.unusedVariables false

theorem own : ownKnob Tryd.prog.godebug = none := by kernel_rfl
theorem laidOut : laidOutB Tryd.prog = true := by kernel_rfl
theorem bulk_len (k : IntKind) {H : Type} (l : List Int) : l.length ≤ Rows.uptoBulkAll (lits (H := H) k l) := by
  induction l with
  | nil => simp [lits, Rows.uptoBulkAll]
  | cons x r ih => simp only [lits, List.map_cons, Rows.uptoBulkAll, Rows.uptoBulk, List.length_cons] at ih ⊢; omega
set_option maxHeartbeats 1000000 in
theorem walk (a0 : ByteArray) (a1 : Option Addr) (len1 cap1 : Nat) (z1 : List Int) (a2 : Bool) (w : World) (w0 : a0.size ≤ 1048576) (w1 : IsRow .i32 w a1 len1 cap1 z1) (r1 : cap1 ≤ 1048576) (hT : Tabs w) :
    Calls Tryd.prog 3 #[.string a0, .slice a1 len1 cap1, .bool a2] w fun e w' => e = .returned (.bool true) ∧ Below w.heap.size w w' := by
  have HT := Lib.hid hT; clear hT
  have hl := w1.lies
  have hn1 : a1 = none → len1 = 0 := fun h => by rcases w1 with ⟨_, h, _⟩ | ⟨x, h', _⟩; exact h; rw [h] at h'; cases h'
  have hle := w1.le
  generalize hzz : z1.take len1 = zs at *
  have hl' : Lies w w.heap.size 1 a1 len1 (ints zs) := hl
  clear hl
  have HL := Lib.hid hl'
  have HN := Lib.hid hn1
  have hlen : len1 ≤ 35184372088832 := by omega
  have hzle : zs.length ≤ 70368744177664 := by have := HL.out.1; simp [ints] at this; omega
  clear hl' hn1 hzz w1 hle r1
  obtain ⟨p, hp⟩ : ∃ p : Nat → Bool, (fun x : Nat => holdB zs a2 x) = p := ⟨_, rfl⟩
  have hF := field_facts p a0
  have hE := Lib.hid (field_ends p a0)
  have htl := trim_le p a0
  have hLn := fieldsP_len p a0
  have CFF := Lib.hid (fun (s : ByteArray) (hs : s.size ≤ 1048576) (a : Option Addr) (c : Nat) (W : World) (h : Lies W W.heap.size 1 a zs.length (ints zs)) => impl_FieldsFunc a zs.length c zs a2 s W (by omega) h hzle)
  have CTF := Lib.hid (fun (a : Option Addr) (c : Nat) (W : World) (hb : Below w.heap.size w W) (h : Lies W W.heap.size 1 a zs.length (ints zs)) => impl_TrimFunc a zs.length c zs a2 a0 W (by omega) (HT.out.below hb) h hzle)
  have CST := Lib.hid (fun (a : Option Addr) (c : Nat) (W : World) (h : Lies W W.heap.size 1 a zs.length (ints zs)) => spec_TrimFunc a zs.length c zs a2 a0 W (by omega) h hzle)
  rw [hp] at CFF CTF CST
  clear hp
  have C1 := Lib.hid (fun (a : Option Addr) (c : Nat) (W : World) (h : Lies W W.heap.size 1 a zs.length (ints zs)) => CFF.out a0 w0 a c W h)
  have C2 := Lib.hid (fun (a : Option Addr) (c : Nat) (W : World) (h : Lies W W.heap.size 1 a zs.length (ints zs)) => CFF.out (trimR p (trimL p a0)) (by omega) a c W h)
  rw [hF.same] at C2
  clear hF CFF
  generalize fieldsP p a0 = L at *
  generalize trimR p (trimL p a0) = t at *
  go_enter Tryd.func3, Tryd.ntmps3
  go_wp2_with fail
  refine (laws_test _ _ _ zs _ _ HN.out HL.out hlen).mono ?_; rintro e w1' ⟨a', c', rfl, hl1, hb1⟩
  have hk := TK.new (nt := a2) (c := c') hl1 hb1
  obtain ⟨wa, hwa⟩ : ∃ wa, w1'.alloc (.cells #[.slice a' zs.length c', .bool a2] 24) = wa := ⟨_, rfl⟩
  rw [hwa] at hk
  generalize hX : w1'.heap.size = X at *
  obtain ⟨y0, y1⟩ := hk.cells
  have K := Lib.hid hk.drew
  clear hk hl1 hb1 HL HN hlen
  have hxl : X < wa.heap.size := heap_lt K.out.x
  go_wp2_with fail
  clear hwa
  go_region_held3 (fun w' => w'.cell? ⟨X, 0, none⟩ = some (.slice a' zs.length c') ∧ w'.cell? ⟨X, 1, none⟩ = some (.bool a2)) (first | go_keep | exact K.out.cells)
    (first | (go_at_call 14; refine (C1.out a' c' _ (by exact K.out.l)).mono ?_; rintro e w2 ⟨g2, c2, rfl, ho2, hb2⟩; have K := Lib.hid (K.out.later hb2); have O2 := Lib.hid ho2; have M2 := Lib.hid (show Lies w2 w2.heap.size 1 (some ⟨g2, 0, none⟩) L.length (strs L) from Lies.of_own ho2); clear hb2 ho2) | (go_at_call 15; refine (CTF.out a' c' _ (by exact K.out.b) (by exact K.out.l)).mono ?_; rintro e w3 ⟨rfl, hb3⟩; have K := Lib.hid (K.out.later hb3); have O3 := Lib.hid (own_later O2.out hb3); have M3 := Lib.hid (M2.out.later hb3); clear hb3))
  clear y0 y1
  obtain ⟨y0, y1⟩ := K.out.cells
  go_wp2_with fail
  refine (C2.out a' c' _ K.out.l).mono ?_; rintro e w4 ⟨g4, c4, rfl, ho4, hb4⟩
  have K := Lib.hid (K.out.later hb4); have O4 := Lib.hid (own_later O3.out hb4); have M4 := Lib.hid (M3.out.later hb4); have N4 := Lib.hid (show Lies w4 w4.heap.size 1 (some ⟨g4, 0, none⟩) L.length (strs L) from Lies.of_own ho4)
  clear hb4 ho4 y0 y1
  go_wp2_with fail
  refine (laws_same _ _ _ _ L _ N4.out M4.out (by omega)).mono ?_; rintro e w5 ⟨rfl, hd5⟩
  have K := Lib.hid (K.out.dr hd5); have O5 := Lib.hid (own_later O4.out (hd5.below _)); clear hd5
  obtain ⟨y0, y1⟩ := K.out.cells
  by_cases h0 : L.length = 0
  · have he := empty_yes (hE.out.none.1 h0)
    obtain rfl : L = [] := List.length_eq_zero_iff.1 h0
    clear h0
    go_wp2_with fail
    refine (CST.out a' c' _ K.out.l).mono ?_; rintro e w6 ⟨rfl, hb6⟩
    have K := Lib.hid (K.out.later hb6); clear hb6 y0 y1
    go_wp2_with fail
    go_ret
    exact ⟨rfl, K.out.b⟩
  · have he := empty_no (fun h => h0 (hE.out.none.2 h))
    obtain ⟨m, hm⟩ : ∃ m, L.length = m + 1 := ⟨L.length - 1, by omega⟩
    have HPf := Lib.hid (hE.out.first (by omega)); have HSf := Lib.hid (hE.out.last m hm)
    have hL0 : ((L.length : Int) == 0) = false := beq_eq_false_iff_ne.2 (by omega)
    have hL0' : (L.length == 0) = false := beq_eq_false_iff_ne.2 (by omega)
    have hA : (L.length : Int) - 1 = (m : Int) := by omega
    have hml : m < L.length := by omega
    have hC0 := fun (W : World) (h : W.ownsRow wa.drew.heap.size 9 1 (.slice (some ⟨g2, 0, none⟩) L.length c2) L.length (strs L)) => (show W.cell? ⟨g2, 0, none⟩ = some (.string (L[0]'(by omega))) by
      have := h.cellAt 0 (by omega); rw [this]; simp [strs])
    have hCm := fun (W : World) (h : W.ownsRow wa.drew.heap.size 9 1 (.slice (some ⟨g2, 0, none⟩) L.length c2) L.length (strs L)) => (show W.cell? ⟨g2, m, none⟩ = some (.string (L[m]'(by omega))) by
      have := h.cellAt m (by omega); rw [this]; simp [strs, hm])
    have HC0 := Lib.hid hC0; have HCm := Lib.hid hCm
    generalize hY0 : L[0]'(by omega) = Y at *
    generalize hXm : L[m]'(by omega) = Xl at *
    clear hm h0 hY0 hXm hC0 hCm
    go_wp2_with fail
    refine (CST.out a' c' _ K.out.l).mono ?_; rintro e w6 ⟨rfl, hb6⟩
    have K := Lib.hid (K.out.later hb6)
    have O6 := own_later O5.out hb6
    have c0 := HC0.out _ O6
    have cm := HCm.out _ O6
    clear hb6 y0 y1 O6
    go_wp2_with fail
    refine (impl_HasPrefix _ _ _).mono ?_; rintro e w7 ⟨rfl, rfl⟩; rw [HPf.out]
    go_wp2_with fail
    refine (impl_HasSuffix _ _ (by omega) _).mono ?_; rintro e w7 ⟨rfl, rfl⟩; rw [HSf.out]
    go_wp2_with fail
    go_ret
    exact ⟨rfl, K.out.b⟩

theorem contract (H : Type) (enc : TypeId × Value → H) (W : World) (base : Nat) (args : Array Value) (ds gs : List (DataW H)) (before : List MemPlace)
    (hval0 : ∀ (j : Nat) t v, Tryd.f3.params[j]? = some t → args[j]? = some v → Value.okWide Tryd.prog W .any base t v)
    (hW : DataW.Whole enc Tryd.prog Tryd.f3.params.toList Rows.fnFieldsFuncTrimSpec.vars false W args.toList ds gs before)
    (hsz0 : (DataW.weightsEach Tryd.prog (Tryd.f3.params.toList ++ Rows.fnFieldsFuncTrimSpec.plain.varTypes Tryd.prog) (ds ++ gs)).all (· ≤ reachBytes) = true) (hk : Rows.uptoSmall H (ds ++ gs) = true) (hL : laidMetH Tryd.prog Rows.fnFieldsFuncTrimUptoRow.laid W) :
    Calls Tryd.prog 3 args W fun e W' => ∃ v, e = .returned v ∧ Rows.fnFieldsFuncTrimSpec.post enc Tryd.prog Tryd.f3 false true false false W args v W' := by
  have hval := hval0
  have hsz := hsz0
  clear hval0 hsz0
  have hW' := hW
  obtain ⟨p, q, hA0, hV, rfl, hfz, hnd⟩ := hW
  have hA : DataW.TrodAll enc Tryd.prog W 0 (fun _ => true) true Tryd.f3.params.toList args.toList ds p := hA0
  rw [Tryd.params3] at hA hval hsz
  obtain ⟨v0, vs0, d0, ds0, p0, q0, hargs, rfl, rfl, h0, r0x⟩ := trodAll_cons hA
  obtain ⟨v1, vs1, d1, ds1, p1, q1, rfl, rfl, rfl, h1, r1x⟩ := trodAll_cons r0x
  obtain ⟨v2, vs2, d2, ds2, p2, q2, rfl, rfl, rfl, h2, r2x⟩ := trodAll_cons r1x
  obtain ⟨rfl, rfl, rfl⟩ := trodAll_nil r2x
  obtain rfl : args = #[v0, v1, v2] := by cases args; simp_all
  obtain ⟨rfl, rfl⟩ := trodVars_none hV
  have hbulk := of_decide_eq_true hk
  obtain ⟨a0, rfl, rfl, rfl, x0⟩ := open_string Tryd.underlying9 (hval 0 9 v0 rfl rfl) h0
  obtain ⟨a1, len1, cap1, rfl⟩ := okWide_slice Tryd.underlying22 (hval 1 22 v1 rfl rfl)
  have k1 := h1
  have lt1 : ∀ x ∈ p1, x.block < W.heap.size := by obtain ⟨m, hm⟩ := k1; exact DataW.trod_lt m _ _ _ hm
  obtain ⟨z1, w1, r1⟩ : ∃ zs, IsRow .i32 W a1 len1 cap1 zs ∧ cap1 ≤ 1048576 := by
    obtain ⟨fuel, hf⟩ := h1
    rcases open_ints Tryd.underlying22 Tryd.underlying21 (by kernel_rfl) hf with ⟨hcs, _⟩ | ⟨x, l, c, zs, hcs, _, hl, hm, hz, hd, hcell, hwz⟩
    · simp [Value.cells] at hcs
      obtain ⟨rfl, rfl, rfl⟩ := hcs
      exact ⟨[], .inl ⟨rfl, rfl, rfl, rfl⟩, by omega⟩
    · simp [Value.cells] at hcs
      obtain ⟨rfl, rfl, rfl⟩ := hcs
      simp only [if_true] at hz
      simp only [Prod.mk.injEq] at hd
      refine ⟨zs, .inr ⟨_, rfl, hl, hm, hz, hcell, hwz⟩, ?_⟩
      obtain ⟨hd, -⟩ := hd
      subst hd
      simp only [Rows.uptoBulkAll, Rows.uptoBulk, List.append_nil] at hbulk
      have e1 := bulk_len .i32 (H := H) (zs.take len1)
      have e2 := bulk_len .i32 (H := H) (zs.drop len1)
      simp only [List.length_take, List.length_drop] at e1 e2
      omega
  obtain ⟨a2, rfl, rfl, rfl⟩ := open_bool Tryd.underlying4 (hval 2 4 v2 rfl rfl) h2
  clear hA0
  have w0 : a0.size ≤ 1048576 := by
    simp only [Rows.uptoBulkAll, Rows.uptoBulk, List.append_nil] at hbulk
    have e : a0.data.toList.length = a0.size := by rw [Array.length_toList]; rfl
    omega
  refine (walk a0 a1 len1 cap1 z1 a2 W w0 w1 r1 (tabs_of hL (by unfold Rows.fnFieldsFuncTrimUptoRow; simp) (by unfold Rows.fnFieldsFuncTrimUptoRow; simp))).mono fun e W' ⟨he, bel⟩ => ?_
  subst he
  exact ⟨_, rfl, _, _, _, [], _, [], hW', trodAll_mk1 (shut_bool Tryd.underlying4 _), (trodAll_cons_mk (shut_string Tryd.underlying9 x0) (trodAll_cons_mk (Below.trod laidOut (by kernel_rfl) (of_decide_eq_true (by kernel_rfl)) k1 bel lt1) (trodAll_cons_mk (shut_bool Tryd.underlying4 _) trodAll_mk0))), rfl, bel.frame _, fun h => by cases h⟩

theorem laid_met (os : Os) : laidMet Tryd.prog Rows.fnFieldsFuncTrimUptoRow.laid ((laidWorld os).forCall (fun _ _ => 0) ⟨#[], #[.string ByteArray.empty, .slice none 0 0, .bool false], []⟩).memory :=
  laidMet_of_run' 8 (by kernel_rfl) (by kernel_rfl)
theorem reads (os : Os) {H : Type} (enc : TypeId × Value → H) : ∃ places, DataW.whole enc Tryd.prog ((laidWorld os).forCall (fun _ _ => 0) ⟨#[], #[.string ByteArray.empty, .slice none 0 0, .bool false], []⟩).memory Tryd.f3.params.toList Rows.fnFieldsFuncTrimSpec.vars false (#[.string ByteArray.empty, .slice none 0 0, .bool false] : Array Value).toList 8 = some ([.lit (.string []), .nil, .lit (.bool false)], [], places) :=
  ⟨[], by kernel_rfl⟩
set_option maxRecDepth 100000 in
theorem lifted (os : Os) (started : os.Started) (H : Type) (enc : TypeId × Value → H) (F : Stop.Interp) :
    ReturnsInHanded {} Tryd.checked os 3 .any ((Rows.OpenSpec.upto Rows.fnFieldsFuncTrimSpec).preRow enc Tryd.prog Tryd.f3 Rows.fnFieldsFuncTrimUptoRow.domain false Rows.fnFieldsFuncTrimUptoRow.laid) (((Rows.OpenSpec.upto Rows.fnFieldsFuncTrimSpec).at F).post enc Tryd.prog Tryd.f3 false true false false) := by
  obtain ⟨places, hx⟩ := reads os enc
  refine returnsInHanded_of_row (C := Tryd.checked) (s := Rows.OpenSpec.upto Rows.fnFieldsFuncTrimSpec) own started (by kernel_rfl) Tryd.func3
    (witness_row_atRef (enc := enc) (C := Tryd.checked) false (laidWorld os) #[.string ByteArray.empty, .slice none 0 0, .bool false] rfl (by kernel_rfl) (by kernel_rfl) (by kernel_rfl)
      (OpenSpec.preRow_of_cond 8 hx (by kernel_rfl) (fun k hk => by cases hk; kernel_rfl) (by kernel_rfl) (laid_met os))) ?_
  intro W base args ds gs before hval0 hW _ hcond hsz0 hL _ _
  exact contract H enc W base args ds gs before hval0 hW hsz0 (hcond _ rfl) hL

theorem said : Rows.FnFieldsFuncTrimUptoSaid :=
  OpenClaim.holds_of_cond 3 Tryd.f3 rfl rfl rfl rfl rfl rfl rfl ⟨rfl, rfl, rfl, rfl, rfl⟩ rfl rfl rfl rfl rfl (by kernel_rfl) Tryd.func3 (by kernel_rfl)
    (of_decide_eq_true (by kernel_rfl)) (by unfold Func.isWrapper; first | (rw [if_pos (by decide +kernel)]; kernel_rfl) | (rw [if_neg (by decide +kernel)]; exact ⟨rfl, rfl⟩))
    (fun os started H enc _ F => by rw [OpenClaim.pre_eq_preRow]; exact lifted os started H enc F)

theorem plain (f : FuncId) (fn : Func) (hf : Tryd.pinned.checked.prog.funcNamed Rows.fnFieldsFuncTrimUptoRow.func = some f) (hfn : Tryd.pinned.checked.prog.funcs[f]? = some fn) :
    false = Tryd.pinned.checked.prog.looks [] ∧ ∀ (j : Nat) t, fn.params[j]? = some t → Tryd.pinned.checked.prog.wantsStandIn t = false := by
  obtain rfl : f = 3 := Option.some.inj ((show Tryd.prog.funcNamed Rows.fnFieldsFuncTrimUptoRow.func = some 3 by kernel_rfl).symm.trans hf) |>.symm
  obtain rfl : fn = Tryd.f3 := (Option.some.inj (Tryd.func3.symm.trans hfn)).symm
  refine ⟨by kernel_rfl, fun j t ht => ?_⟩
  rw [Tryd.params3] at ht
  have hm := Array.mem_of_getElem? ht
  simp only [List.mem_toArray, List.mem_cons, List.mem_nil_iff, or_false] at hm
  rcases hm with rfl | rfl | rfl
  · exact (show Tryd.prog.wantsStandIn 9 = false by kernel_rfl)
  · exact (show Tryd.prog.wantsStandIn 22 = false by kernel_rfl)
  · exact (show Tryd.prog.wantsStandIn 4 = false by kernel_rfl)

theorem proved : Rows.FnFieldsFuncTrimUptoCardSaid :=
  Claim7.holds_tied_plain_at .later [] _ _ _ _ said (fun _ h => by cases h) (by kernel_rfl) (fun _ h => by cases h) fnFieldsFuncTrimUpto_row_tie rfl ⟨rfl, rfl⟩ (by kernel_rfl) rfl plain (by kernel_rfl)
#print axioms proved
end Go.Proofs.YteiginpjahmppaaDoor.fnFieldsFuncTrimUpto
