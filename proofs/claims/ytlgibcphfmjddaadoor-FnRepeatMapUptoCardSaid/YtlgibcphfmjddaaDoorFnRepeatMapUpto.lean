/-
  For every text, two lists of code points and a count the law FnRepeatMap returns true and changes nothing: a well-formed text that is mapped and repeated is repeated and mapped (within a bound of memory). Condition: what comes in is of bulk at most 1048576 (the second form).
-/
import Derived.Test.YtlgibcphfmjddaaDoorCards
import Derived.Test.YtlgibcphfmjddaaDoorTie
import Derived.Test.YtlgibcphfmjddaaDoorTabs
import Derived.Test.YtlgibcphfmjddaaDoorMapT
import Derived.Test.YtlgibcphfmjddaaDoorMapC
import Derived.Test.YtlgibcphfmjddaaDoorSpecV
import Derived.Test.YtlgibcphfmjddaaDoorRep
import Derived.WalkKit
import Derived.ProofKit
import Derived.OpenShut
import Derived.ShutString
import Derived.ChangeOld
import Derived.Below
import Derived.SizedLaws
import Derived.Lib.SmallJoins
import Derived.Deep.CondSized
import Derived.Deep.DeepHandedRow
import Derived.Deep.DeepWitnessRowRef
namespace Go.Proofs.YtlgibcphfmjddaaDoor.fnRepeatMapUpto
open Go.ChangeShapes Go.WideShapes Go.ChangeAt Go.RowKit Go.Joins
open Go.ChangeMaps (open_string shut_string)
set_option linter.unusedVariables false

theorem own : ownKnob Tryd.prog.godebug = none := by kernel_rfl
theorem laidOut : laidOutB Tryd.prog = true := by kernel_rfl
theorem bulk_len (k : IntKind) {H : Type} (l : List Int) : l.length ≤ Rows.uptoBulkAll (lits (H := H) k l) := by
  induction l with
  | nil => simp [lits, Rows.uptoBulkAll]
  | cons x r ih => simp only [lits, List.map_cons, Rows.uptoBulkAll, Rows.uptoBulk, List.length_cons] at ih ⊢; omega
theorem byte_cnt {a : Int} (h : (Lit.int .u8 a).wf = true) : ∃ n : Nat, a = (n : Int) ∧ n ≤ 255 := by
  have := bounds_u8 h
  exact ⟨a.toNat, by omega, by omega⟩
theorem rep_size (s : ByteArray) (n : Nat) : (⟨(Lib.repeatL s.data.toList n).toArray⟩ : ByteArray).size = s.size * n := by
  show (Lib.repeatL s.data.toList n).toArray.size = _
  rw [List.size_toArray, Lib.repeatL_length, len_data, Nat.mul_comm]
theorem map_append (f : Int → Int) (l r : List UInt8) (h : (chs l).all okC = true) : Lib.mapD f (l ++ r) = Lib.mapD f l ++ Lib.mapD f r := by
  have h1 := chs_oks (chs l) (fun c hc => ⟨chs_mem hc, List.all_eq_true.1 h c hc⟩) r
  rw [cat_chs] at h1
  rw [map_cat, h1, map_cat f l, map_cat f r]
  unfold mapCh
  rw [List.flatMap_append, cat_append]
theorem map_repeat (f : Int → Int) (l : List UInt8) (h : (chs l).all okC = true) : ∀ c, Lib.mapD f (Lib.repeatL l c) = Lib.repeatL (Lib.mapD f l) c
  | 0 => rfl
  | c + 1 => by
    unfold Lib.repeatL
    rw [map_append f l _ h, map_repeat f l h c]
set_option maxRecDepth 100000 in
set_option maxHeartbeats 4000000 in
theorem walk (a0 : ByteArray) (a1 : Option Addr) (len1 cap1 : Nat) (z1 : List Int) (a2 : Option Addr) (len2 cap2 : Nat) (z2 : List Int) (a3 : Int) (w : World) (w0 : a0.size ≤ 1048576) (w1 : IsRow .i32 w a1 len1 cap1 z1) (r1 : cap1 ≤ 1048576) (w2 : IsRow .i32 w a2 len2 cap2 z2) (r2 : cap2 ≤ 1048576) (w3 : (Lit.int .u8 a3).wf = true) (hT : Tabs w) :
    Calls Tryd.prog 9 #[.string a0, .slice a1 len1 cap1, .slice a2 len2 cap2, .int .u8 a3] w fun e w' => e = .returned (.bool true) ∧ Below w.heap.size w w' := by
  have HT := Lib.hid hT; clear hT
  obtain ⟨n, rfl, hn⟩ := byte_cnt w3
  have CW := Lib.hid (fun (W : World) => spec_Whole a0 W (by omega))
  cases hw : (chs a0.data.toList).all okC
  · rw [hw] at CW
    clear hw w1 w2 w3
    go_enter Tryd.func9, Tryd.ntmps9
    go_wp2_with fail
    refine (CW.out _).mono ?_; rintro e w1 ⟨rfl, hb1⟩
    have B1 := Lib.hid hb1; clear hb1
    go_wp2_with fail
    go_ret
    exact ⟨rfl, B1.out⟩
  · rw [hw] at CW
    by_cases hsz : a0.size ≤ 8192
    · have hl1 := w1.lies; have hl2 := w2.lies
      have hle1 := w1.le; have hle2 := w2.le
      have hsm : Small ((z1.take len1).zip (z2.take len2)) := small_zip _ _ (fun z hz => w2.wf z (List.mem_of_mem_take hz))
      have hxl : (z1.take len1).length = len1 := by rw [List.length_take]; omega
      generalize z1.take len1 = xs at *
      generalize z2.take len2 = ys at *
      have HL1 := Lib.hid (show Lies w w.heap.size 1 a1 len1 (ivals xs) from hl1)
      have HL2 := Lib.hid (show Lies w w.heap.size 1 a2 len2 (ivals ys) from hl2)
      have hzl : (xs.zip ys).length ≤ 35184372088832 := by rw [List.length_zip]; omega
      have CT := Lib.hid (fun (W : World) (hb : Below w.heap.size w W) => laws_table a1 a2 len1 len2 cap1 cap2 xs ys W (HL1.out.later hb) (HL2.out.later hb) (by omega) (by omega))
      generalize xs.zip ys = rs at *
      clear hl1 hl2 w1 w2 w3 hle1 hle2 HL1 HL2 hxl r1 r2
      have HZ := Lib.hid hzl; have HSM := Lib.hid hsm
      obtain ⟨f, hf⟩ : ∃ f, imgB rs = f := ⟨_, rfl⟩
      have CM := Lib.hid (fun (s : ByteArray) (hs : s.size ≤ 1099511627776) (a : Option Addr) (c : Nat) (W : World) (hb : Below w.heap.size w W) (h : Lies W W.heap.size 2 a rs.length (rcells rs)) => impl_Map a c rs s W hs (HT.out.below hb) h HZ.out HSM.out)
      rw [hf] at CM
      have hml := mapped_len f a0.data.toList
      rw [len_data] at hml
      have hmr := map_repeat f a0.data.toList hw n
      obtain ⟨T, hTT⟩ : ∃ T : ByteArray, (⟨(Lib.mapD f a0.data.toList).toArray⟩ : ByteArray) = T := ⟨_, rfl⟩
      have hTd : Lib.mapD f a0.data.toList = T.data.toList := by rw [← hTT]
      have hTs : T.size ≤ 32768 := by rw [← len_data, ← hTd]; omega
      rw [hTd] at hmr
      have C1 := Lib.hid (fun (a : Option Addr) (c : Nat) (W : World) (hb : Below w.heap.size w W) (h : Lies W W.heap.size 2 a rs.length (rcells rs)) => CM.out a0 (by omega) a c W hb h)
      rw [hTT] at C1
      have hn1 : T.size * n ≤ 140737488355328 := Nat.le_trans (Nat.mul_le_mul hTs hn) (by decide)
      have hn2 : a0.size * n ≤ 140737488355328 := Nat.le_trans (Nat.mul_le_mul hsz hn) (by decide)
      have hn3 : a0.size * n ≤ 2088960 := Nat.le_trans (Nat.mul_le_mul hsz hn) (by decide)
      have C2 := Lib.hid (fun (W : World) => impl_Repeat T n W (by omega) hn1)
      have C3 := Lib.hid (fun (W : World) => impl_Repeat a0 n W (by omega) hn2)
      have hys := rep_size a0 n
      obtain ⟨Y, hY⟩ : ∃ Y : ByteArray, (⟨(Lib.repeatL a0.data.toList n).toArray⟩ : ByteArray) = Y := ⟨_, rfl⟩
      have hYd : Lib.repeatL a0.data.toList n = Y.data.toList := by rw [← hY]
      rw [hY] at C3 hys
      rw [hYd] at hmr
      have C4 := Lib.hid (fun (a : Option Addr) (c : Nat) (W : World) (hb : Below w.heap.size w W) (h : Lies W W.heap.size 2 a rs.length (rcells rs)) => CM.out Y (by omega) a c W hb h)
      rw [hmr] at C4
      obtain ⟨Z, hZ⟩ : ∃ Z : ByteArray, (⟨(Lib.repeatL T.data.toList n).toArray⟩ : ByteArray) = Z := ⟨_, rfl⟩
      rw [hZ] at C4 C2
      have hmul : (a0.size : Int) * (n : Int) = (Y.size : Int) := by rw [hys]; simp
      have hYs : Y.size ≤ 2088960 := by omega
      clear hZ hYd hY hys hn1 hn2 hn3 hTd hTT hTs hmr hml hf hzl hsm CM hw
      go_enter Tryd.func9, Tryd.ntmps9
      go_wp2_with fail
      refine (CW.out _).mono ?_; rintro e w1 ⟨rfl, hb1⟩
      have B1 := Lib.hid hb1; clear hb1
      go_wp2_with fail
      refine (CT.out _ B1.out).mono ?_; rintro e w2 ⟨ta, tc, rfl, hl2, hb2⟩
      have hwa : Below w2.heap.size w2 (w2.alloc (.cells #[.slice ta rs.length tc] 29)) := (Below.refl _ w2).alloc (Nat.le_refl _) _
      have hb2' := B1.out.trans (hb2.mono B1.out.size)
      have B3 := Lib.hid (hb2'.trans (hwa.mono hb2'.size)); have L3 := Lib.hid (hl2.later hwa); have X3 := Lib.hid (Box.new w2 29 #[.slice ta rs.length tc])
      clear hb2 hb2' hl2 hwa B1
      go_wp2_with fail
      generalize w2.heap.size = X at *
      generalize w2.alloc (.cells #[.slice ta rs.length tc] 29) = w3 at *
      refine (C1.out ta tc _ B3.out L3.out).mono ?_; rintro e w4 ⟨rfl, hb4⟩
      have B4 := Lib.hid (B3.out.trans (hb4.mono B3.out.size)); have L4 := Lib.hid (L3.out.later hb4); have X4 := Lib.hid (X3.out.later hb4); clear hb4 B3 L3 X3
      go_wp2_with fail
      refine (C2.out _).mono ?_; rintro e w5 ⟨rfl, hb5⟩
      have B5 := Lib.hid (B4.out.trans (hb5.mono B4.out.size)); have L5 := Lib.hid (L4.out.later hb5); have X5 := Lib.hid (X4.out.later hb5); clear hb5 B4 L4 X4
      go_wp2_with fail
      refine (C3.out _).mono ?_; rintro e w6 ⟨rfl, hb6⟩
      have B6 := Lib.hid (B5.out.trans (hb6.mono B5.out.size)); have L6 := Lib.hid (L5.out.later hb6); have X6 := Lib.hid (X5.out.later hb6); clear hb6 B5 L5 X5
      have hxc : w6.cell? ⟨X, 0, none⟩ = some (.slice ta rs.length tc) := X6.out.cell 0
      go_wp2_with fail
      refine (C4.out ta tc _ B6.out L6.out).mono ?_; rintro e w7 ⟨rfl, hb7⟩
      have B7 := Lib.hid (B6.out.trans (hb7.mono B6.out.size)); clear hb7 hxc
      go_wp2_with fail
      go_ret
      exact ⟨rfl, B7.out⟩
    · clear w1 w2 w3 hw
      go_enter Tryd.func9, Tryd.ntmps9
      go_wp2_with fail
      refine (CW.out _).mono ?_; rintro e w1 ⟨rfl, hb1⟩
      have B1 := Lib.hid hb1; clear hb1
      go_wp2_with fail
      go_ret
      exact ⟨rfl, B1.out⟩

set_option maxRecDepth 100000 in
theorem contract (H : Type) (enc : TypeId × Value → H) (W : World) (base : Nat) (args : Array Value) (ds gs : List (DataW H)) (before : List MemPlace)
    (hval0 : ∀ (j : Nat) t v, Tryd.f9.params[j]? = some t → args[j]? = some v → Value.okWide Tryd.prog W .any base t v)
    (hW : DataW.Whole enc Tryd.prog Tryd.f9.params.toList Rows.fnRepeatMapSpec.vars false W args.toList ds gs before)
    (hsz0 : (DataW.weightsEach Tryd.prog (Tryd.f9.params.toList ++ Rows.fnRepeatMapSpec.plain.varTypes Tryd.prog) (ds ++ gs)).all (· ≤ reachBytes) = true) (hk : Rows.uptoSmall H (ds ++ gs) = true) (hL : laidMetH Tryd.prog Rows.fnRepeatMapUptoRow.laid W) :
    Calls Tryd.prog 9 args W fun e W' => ∃ v, e = .returned v ∧ Rows.fnRepeatMapSpec.post enc Tryd.prog Tryd.f9 false true false false W args v W' := by
  have hval := hval0
  have hsz := hsz0
  clear hval0 hsz0
  have hW' := hW
  obtain ⟨p, q, hA0, hV, rfl, hfz, hnd⟩ := hW
  have hA : DataW.TrodAll enc Tryd.prog W 0 (fun _ => true) true Tryd.f9.params.toList args.toList ds p := hA0
  rw [Tryd.params9] at hA hval hsz
  obtain ⟨v0, vs0, d0, ds0, p0, q0, hargs, rfl, rfl, h0, r0x⟩ := trodAll_cons hA
  obtain ⟨v1, vs1, d1, ds1, p1, q1, rfl, rfl, rfl, h1, r1x⟩ := trodAll_cons r0x
  obtain ⟨v2, vs2, d2, ds2, p2, q2, rfl, rfl, rfl, h2, r2x⟩ := trodAll_cons r1x
  obtain ⟨v3, vs3, d3, ds3, p3, q3, rfl, rfl, rfl, h3, r3x⟩ := trodAll_cons r2x
  obtain ⟨rfl, rfl, rfl⟩ := trodAll_nil r3x
  obtain rfl : args = #[v0, v1, v2, v3] := by cases args; simp_all
  obtain ⟨rfl, rfl⟩ := trodVars_none hV
  have hbulk := of_decide_eq_true hk
  obtain ⟨a0, rfl, rfl, rfl, x0⟩ := open_string Tryd.underlying9 (hval 0 9 v0 rfl rfl) h0
  obtain ⟨a1, len1, cap1, rfl⟩ := okWide_slice Tryd.underlying33 (hval 1 33 v1 rfl rfl)
  have k1 := h1
  have lt1 : ∀ x ∈ p1, x.block < W.heap.size := by obtain ⟨m, hm⟩ := k1; exact DataW.trod_lt m _ _ _ hm
  obtain ⟨z1, w1, r1⟩ : ∃ zs, IsRow .i32 W a1 len1 cap1 zs ∧ cap1 ≤ 1048576 := by
    obtain ⟨fuel, hf⟩ := h1
    rcases open_ints Tryd.underlying33 Tryd.underlying21 (by kernel_rfl) hf with ⟨hcs, _⟩ | ⟨x, l, c, zs, hcs, _, hl, hm, hz, hd, hcell, hwz⟩
    · simp [Value.cells] at hcs
      obtain ⟨rfl, rfl, rfl⟩ := hcs
      exact ⟨[], .inl ⟨rfl, rfl, rfl, rfl⟩, by omega⟩
    · simp [Value.cells] at hcs
      obtain ⟨rfl, rfl, rfl⟩ := hcs
      simp only [if_true] at hz
      simp only [Prod.mk.injEq] at hd
      refine ⟨zs, .inr ⟨_, rfl, hl, hm, hz, hcell, hwz⟩, ?_⟩
      obtain ⟨hd, -⟩ := hd
      subst hd
      simp only [Rows.uptoBulkAll, Rows.uptoBulk, List.append_nil] at hbulk
      have e1 := bulk_len .i32 (H := H) (zs.take len1)
      have e2 := bulk_len .i32 (H := H) (zs.drop len1)
      simp only [List.length_take, List.length_drop] at e1 e2
      omega
  obtain ⟨a2, len2, cap2, rfl⟩ := okWide_slice Tryd.underlying33 (hval 2 33 v2 rfl rfl)
  have k2 := h2
  have lt2 : ∀ x ∈ p2, x.block < W.heap.size := by obtain ⟨m, hm⟩ := k2; exact DataW.trod_lt m _ _ _ hm
  obtain ⟨z2, w2, r2⟩ : ∃ zs, IsRow .i32 W a2 len2 cap2 zs ∧ cap2 ≤ 1048576 := by
    obtain ⟨fuel, hf⟩ := h2
    rcases open_ints Tryd.underlying33 Tryd.underlying21 (by kernel_rfl) hf with ⟨hcs, _⟩ | ⟨x, l, c, zs, hcs, _, hl, hm, hz, hd, hcell, hwz⟩
    · simp [Value.cells] at hcs
      obtain ⟨rfl, rfl, rfl⟩ := hcs
      exact ⟨[], .inl ⟨rfl, rfl, rfl, rfl⟩, by omega⟩
    · simp [Value.cells] at hcs
      obtain ⟨rfl, rfl, rfl⟩ := hcs
      simp only [if_true] at hz
      simp only [Prod.mk.injEq] at hd
      refine ⟨zs, .inr ⟨_, rfl, hl, hm, hz, hcell, hwz⟩, ?_⟩
      obtain ⟨hd, -⟩ := hd
      subst hd
      simp only [Rows.uptoBulkAll, Rows.uptoBulk, List.append_nil] at hbulk
      have e1 := bulk_len .i32 (H := H) (zs.take len2)
      have e2 := bulk_len .i32 (H := H) (zs.drop len2)
      simp only [List.length_take, List.length_drop] at e1 e2
      omega
  obtain ⟨a3, rfl, rfl, rfl, w3⟩ := open_int Tryd.underlying5 (hval 3 5 v3 rfl rfl) h3
  clear hA0
  have w0 : a0.size ≤ 1048576 := by
    simp only [Rows.uptoBulkAll, Rows.uptoBulk, List.append_nil] at hbulk
    have e : a0.data.toList.length = a0.size := by rw [Array.length_toList]; rfl
    omega
  refine (walk a0 a1 len1 cap1 z1 a2 len2 cap2 z2 a3 W w0 w1 r1 w2 r2 w3 (tabs_of hL (by unfold Rows.fnRepeatMapUptoRow; simp) (by unfold Rows.fnRepeatMapUptoRow; simp))).mono fun e W' ⟨he, bel⟩ => ?_
  subst he
  exact ⟨_, rfl, _, _, _, [], _, [], hW', trodAll_mk1 (shut_bool Tryd.underlying4 _), (trodAll_cons_mk (shut_string Tryd.underlying9 x0) (trodAll_cons_mk (Below.trod laidOut (by kernel_rfl) (of_decide_eq_true (by kernel_rfl)) k1 bel lt1) (trodAll_cons_mk (Below.trod laidOut (by kernel_rfl) (of_decide_eq_true (by kernel_rfl)) k2 bel lt2) (trodAll_cons_mk (shut_int Tryd.underlying5 w3) trodAll_mk0)))), rfl, bel.frame _, fun h => by cases h⟩

theorem laid_met (os : Os) : laidMet Tryd.prog Rows.fnRepeatMapUptoRow.laid ((laidWorld os).forCall (fun _ _ => 0) ⟨#[], #[.string ByteArray.empty, .slice none 0 0, .slice none 0 0, .int .u8 0], []⟩).memory :=
  laidMet_of_run' 8 (by kernel_rfl) (by kernel_rfl)
theorem reads (os : Os) {H : Type} (enc : TypeId × Value → H) : ∃ places, DataW.whole enc Tryd.prog ((laidWorld os).forCall (fun _ _ => 0) ⟨#[], #[.string ByteArray.empty, .slice none 0 0, .slice none 0 0, .int .u8 0], []⟩).memory Tryd.f9.params.toList Rows.fnRepeatMapSpec.vars false (#[.string ByteArray.empty, .slice none 0 0, .slice none 0 0, .int .u8 0] : Array Value).toList 8 = some ([.lit (.string []), .nil, .nil, .lit (.int .u8 0)], [], places) :=
  ⟨[], by kernel_rfl⟩
set_option maxRecDepth 100000 in
theorem lifted (os : Os) (started : os.Started) (H : Type) (enc : TypeId × Value → H) (F : Stop.Interp) :
    ReturnsInHanded {} Tryd.checked os 9 .any ((Rows.OpenSpec.upto Rows.fnRepeatMapSpec).preRow enc Tryd.prog Tryd.f9 Rows.fnRepeatMapUptoRow.domain false Rows.fnRepeatMapUptoRow.laid) (((Rows.OpenSpec.upto Rows.fnRepeatMapSpec).at F).post enc Tryd.prog Tryd.f9 false true false false) := by
  obtain ⟨places, hx⟩ := reads os enc
  refine returnsInHanded_of_row (C := Tryd.checked) (s := Rows.OpenSpec.upto Rows.fnRepeatMapSpec) own started (by kernel_rfl) Tryd.func9
    (witness_row_at (enc := enc) (C := Tryd.checked) false (laidWorld os) #[.string ByteArray.empty, .slice none 0 0, .slice none 0 0, .int .u8 0] rfl (by kernel_rfl) (by kernel_rfl) (by kernel_rfl)
      (OpenSpec.preRow_of_cond 8 hx (by kernel_rfl) (fun k hk => by cases hk; kernel_rfl) (by kernel_rfl) (laid_met os))) ?_
  intro W base args ds gs before hval0 hW _ hcond hsz0 hL _ _
  exact contract H enc W base args ds gs before hval0 hW hsz0 (hcond _ rfl) hL

theorem said : Rows.FnRepeatMapUptoSaid :=
  OpenClaim.holds_of_cond 9 Tryd.f9 rfl rfl rfl rfl rfl rfl rfl ⟨rfl, rfl, rfl, rfl, rfl⟩ rfl rfl rfl rfl rfl (by kernel_rfl) Tryd.func9 (by kernel_rfl)
    (of_decide_eq_true (by kernel_rfl)) (by unfold Func.isWrapper; first | (rw [if_pos (by decide +kernel)]; kernel_rfl) | (rw [if_neg (by decide +kernel)]; exact ⟨rfl, rfl⟩))
    (fun os started H enc _ F => by rw [OpenClaim.pre_eq_preRow]; exact lifted os started H enc F)

theorem plain (f : FuncId) (fn : Func) (hf : Tryd.pinned.checked.prog.funcNamed Rows.fnRepeatMapUptoRow.func = some f) (hfn : Tryd.pinned.checked.prog.funcs[f]? = some fn) :
    false = Tryd.pinned.checked.prog.looks [] ∧ ∀ (j : Nat) t, fn.params[j]? = some t → Tryd.pinned.checked.prog.wantsStandIn t = false := by
  obtain rfl : f = 9 := Option.some.inj ((show Tryd.prog.funcNamed Rows.fnRepeatMapUptoRow.func = some 9 by kernel_rfl).symm.trans hf) |>.symm
  obtain rfl : fn = Tryd.f9 := (Option.some.inj (Tryd.func9.symm.trans hfn)).symm
  refine ⟨by kernel_rfl, fun j t ht => ?_⟩
  rw [Tryd.params9] at ht
  have hm := Array.mem_of_getElem? ht
  simp only [List.mem_toArray, List.mem_cons, List.mem_nil_iff, or_false] at hm
  rcases hm with rfl | rfl | rfl | rfl
  · exact (show Tryd.prog.wantsStandIn 9 = false by kernel_rfl)
  · exact (show Tryd.prog.wantsStandIn 33 = false by kernel_rfl)
  · exact (show Tryd.prog.wantsStandIn 33 = false by kernel_rfl)
  · exact (show Tryd.prog.wantsStandIn 5 = false by kernel_rfl)

theorem proved : Rows.FnRepeatMapUptoCardSaid :=
  Claim7.holds_tied_plain_at .later [] _ _ _ _ said (fun _ h => by cases h) (by kernel_rfl) (fun _ h => by cases h) fnRepeatMapUpto_row_tie rfl ⟨rfl, rfl⟩ (by kernel_rfl) rfl plain (by kernel_rfl)
#print axioms proved
end Go.Proofs.YtlgibcphfmjddaaDoor.fnRepeatMapUpto
