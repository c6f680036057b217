/-
  For every text and list of code points the law FnFieldsFuncDrop returns true and changes nothing: of well-formed text the fields by some code points, one behind the other, are the text without these. Condition: what comes in is of bulk at most 1048576 (the second form).
-/
import Derived.Test.YtlgibcphfmjddaaDoorCards
import Derived.Test.YtlgibcphfmjddaaDoorTie
import Derived.Test.YtlgibcphfmjddaaDoorTabs
import Derived.Test.YtlgibcphfmjddaaDoorMapT
import Derived.Test.YtlgibcphfmjddaaDoorMapW
import Derived.Test.YtlgibcphfmjddaaDoorSpecV
import Derived.Test.YtlgibcphfmjddaaDoorFieldsI
import Derived.Test.YtlgibcphfmjddaaDoorGlue
import Derived.WalkKit
import Derived.ProofKit
import Derived.OpenShut
import Derived.ShutString
import Derived.ChangeOld
import Derived.Below
import Derived.SizedLaws
import Derived.Lib.SmallJoins
import Derived.Deep.CondSized
import Derived.Deep.DeepHandedRow
import Derived.Deep.DeepWitnessRowRef
namespace Go.Proofs.YtlgibcphfmjddaaDoor.fnFieldsFuncDropUpto
open Go.ChangeShapes Go.WideShapes Go.ChangeAt Go.RowKit Go.Joins
open Go.ChangeMaps (open_string shut_string)
set_option linter.unusedVariables false

theorem own : ownKnob Tryd.prog.godebug = none := by kernel_rfl
theorem laidOut : laidOutB Tryd.prog = true := by kernel_rfl
theorem bulk_len (k : IntKind) {H : Type} (l : List Int) : l.length ≤ Rows.uptoBulkAll (lits (H := H) k l) := by
  induction l with
  | nil => simp [lits, Rows.uptoBulkAll]
  | cons x r ih => simp only [lits, List.map_cons, Rows.uptoBulkAll, Rows.uptoBulk, List.length_cons] at ih ⊢; omega
theorem img_nil : imgB [] = fun x => x := rfl
theorem lies_nil (w : World) : Lies w w.heap.size 2 none ([] : List (Int × Int)).length (rcells []) := ⟨rfl, fun h => absurd rfl (Nat.ne_of_gt h)⟩
theorem small_nil : Small [] := fun r h => by cases h
theorem runs_flat (p : Nat → Bool) : ∀ (cs cur : List Ch), (runsC p cur cs).flatten = cur ++ cs.filter (fun c => !p c.1)
  | [], cur => by
    unfold runsC
    split
    · rename_i h; simp [h]
    · simp
  | c :: cs, cur => by
    unfold runsC
    by_cases hp : p c.1 = true
    · rw [if_pos hp, List.flatten_append, runs_flat p cs []]
      simp only [List.filter_cons, hp, Bool.not_true]
      split
      · rename_i h; simp [h]
      · simp
    · rw [if_neg hp, runs_flat p cs (cur ++ [c])]
      simp [hp]
theorem cat_flat : ∀ L : List (List Ch), cat L.flatten = L.flatMap cat
  | [] => rfl
  | a :: L => by rw [List.flatten_cons, cat_append, cat_flat L, List.flatMap_cons]
theorem glue_fields (p : Nat → Bool) (s : ByteArray) : glueL (fieldsP p s) = cat ((chs s.data.toList).filter (fun c => !p c.1)) := by
  have h : glueL (fieldsP p s) = ((fieldsP p s).map (·.data.toList)).flatten := by unfold glueL; rw [List.flatMap_def]
  have h2 : ((runsC p [] (chs s.data.toList)).map cat).flatten = cat (runsC p [] (chs s.data.toList)).flatten := by rw [cat_flat, List.flatMap_def]
  rw [h, fields_ch, h2, runs_flat, List.nil_append]
theorem ch_self {l : List UInt8} {c : Ch} (hc : c ∈ chs l) (ho : okC c = true) : encC (c.1 : Int) = c := by
  have h1 := chs_mem hc
  have h2 := map_self c.2 (by rw [h1]; simp [ho])
  have h3 := map_chs (fun x => x) c.2
  rw [h2, h1] at h3
  unfold mapCh at h3
  rw [List.flatMap_cons, if_pos (show 0 ≤ (fun x : Int => x) (c.1 : Int) from Int.natCast_nonneg _)] at h3
  have : c = encC (c.1 : Int) := by simpa using h3
  exact this.symm
theorem drop_img (zs : List Int) : ∀ (n : Nat) (x : Int), zs.length ≤ n → imgB (zs.zip (List.replicate n (-1))) x = if holdB zs false x then -1 else x := by
  induction zs with
  | nil => intro n x _; simp [imgB, holdB]
  | cons z zs ih =>
    intro n x hn
    obtain ⟨m, rfl⟩ : ∃ m, n = m + 1 := ⟨n - 1, by simp at hn; omega⟩
    rw [List.replicate_succ, List.zip_cons_cons]
    unfold imgB
    by_cases hz : z = x
    · subst hz; simp [holdB]
    · simp only [if_neg hz]
      rw [ih m x (by simp at hn; omega)]
      have : holdB (z :: zs) false x = holdB zs false x := by
        unfold holdB
        have : (z :: zs).contains x = zs.contains x := by
          rw [List.contains_cons]
          have : (x == z) = false := beq_eq_false_iff_ne.2 (fun h => hz h.symm)
          rw [this, Bool.false_or]
        rw [this]
      rw [this]
theorem drop_map (zs : List Int) (s : ByteArray) (h : (chs s.data.toList).all okC = true) : Lib.mapD (imgB (zs.zip (List.replicate zs.length (-1)))) s.data.toList = glueL (fieldsP (fun x => holdB zs false x) s) := by
  rw [glue_fields, map_cat]
  congr 1
  have hself : ∀ c ∈ chs s.data.toList, encC (c.1 : Int) = c := fun c hc => ch_self hc (List.all_eq_true.1 h c hc)
  generalize chs s.data.toList = cs at *
  clear h
  induction cs with
  | nil => rfl
  | cons c cs ih =>
    have i := ih (fun d hd => hself d (List.mem_cons_of_mem _ hd))
    unfold mapCh at i ⊢
    rw [List.flatMap_cons, i, drop_img zs zs.length _ (Nat.le_refl _), List.filter_cons]
    cases hh : holdB zs false (c.1 : Int)
    · simp [hself c (List.mem_cons_self ..)]
    · simp
theorem ivals_snoc (k : Nat) : ivals (List.replicate (k + 1) (-1)) = ivals (List.replicate k (-1)) ++ [.int .i32 (-1)] := by
  unfold ivals; rw [List.replicate_succ', List.map_append]; rfl
set_option maxRecDepth 100000 in
set_option maxHeartbeats 4000000 in
theorem walk (a0 : ByteArray) (a1 : Option Addr) (len1 cap1 : Nat) (z1 : List Int) (w : World) (w0 : a0.size ≤ 1048576) (w1 : IsRow .i32 w a1 len1 cap1 z1) (r1 : cap1 ≤ 1048576) (hT : Tabs w) :
    Calls Tryd.prog 8 #[.string a0, .slice a1 len1 cap1] w fun e w' => e = .returned (.bool true) ∧ Below w.heap.size w w' := by
  have HT := Lib.hid hT; clear hT
  have CW := Lib.hid (fun (W : World) => spec_Whole a0 W (by omega))
  cases hw : (chs a0.data.toList).all okC
  · rw [hw] at CW
    clear hw w1
    go_enter Tryd.func8, Tryd.ntmps8
    go_wp2_with fail
    refine (CW.out _).mono ?_; rintro e w1 ⟨rfl, hb1⟩
    have B1 := Lib.hid hb1; clear hb1
    go_wp2_with fail
    go_ret
    exact ⟨rfl, B1.out⟩
  · rw [hw] at CW
    obtain ⟨i0, hi, hz0, hz1, hz2⟩ := info_parts Tryd.info32
    have hl := w1.lies
    have hn1 : a1 = none → len1 = 0 := fun h => by rcases w1 with ⟨_, h, _⟩ | ⟨x, h', _⟩; exact h; rw [h] at h'; cases h'
    have hle := w1.le
    generalize hzz : z1.take len1 = zs at *
    have HL := Lib.hid (show Lies w w.heap.size 1 a1 len1 (ints zs) from hl)
    have HN := Lib.hid hn1
    have hlen : len1 ≤ 1099511627776 := by omega
    have hzl : zs.length = len1 := by have := HL.out.1; simpa [ints] using this
    clear hl hn1 hzz w1 hle
    subst hzl
    obtain ⟨rs, hrs⟩ : ∃ rs, zs.zip (List.replicate zs.length (-1)) = rs := ⟨_, rfl⟩
    have hrl : rs.length ≤ 35184372088832 := by rw [← hrs, List.length_zip]; omega
    have hsm : Small rs := by rw [← hrs]; intro r hr; have := List.eq_of_mem_replicate (List.of_mem_zip hr).2; omega
    have hdm := drop_map zs a0 hw
    rw [hrs] at hdm
    have CT := Lib.hid (fun (b : Option Addr) (cb : Nat) (W : World) (hb : Below w.heap.size w W) (h : Lies W W.heap.size 1 b zs.length (ivals (List.replicate zs.length (-1)))) => laws_table a1 b zs.length zs.length cap1 cb zs (List.replicate zs.length (-1)) W (HL.out.later hb) h (by omega) (by omega))
    rw [hrs] at CT
    have CM := Lib.hid (fun (a : Option Addr) (c : Nat) (W : World) (hb : Below w.heap.size w W) (h : Lies W W.heap.size 2 a rs.length (rcells rs)) => impl_Map a c rs a0 W (by omega) (HT.out.below hb) h hrl hsm)
    have C4 := Lib.hid (fun (W : World) (hb : Below w.heap.size w W) => impl_Map none 0 [] a0 W (by omega) (HT.out.below hb) (lies_nil W) (by simp) small_nil)
    rw [img_nil, map_self _ hw] at C4
    rw [hdm] at CM
    have hgl := mapped_len (imgB rs) a0.data.toList
    rw [hdm, len_data] at hgl
    have CF := Lib.hid (fun (a : Option Addr) (c : Nat) (W : World) (h : Lies W W.heap.size 1 a zs.length (ints zs)) => impl_FieldsFunc a zs.length c zs false a0 W (by omega) h (by omega))
    have hfl := fieldsP_len (fun x => holdB zs false x) a0
    generalize fieldsP (fun x => holdB zs false x) a0 = L at *
    have CG := Lib.hid (fun (a : Option Addr) (c : Nat) (W : World) (h : Lies W W.heap.size 1 a L.length (strs L)) => laws_glued a c L W h (by omega) (by omega))
    obtain ⟨T, hTT⟩ : ∃ T : ByteArray, (⟨(glueL L).toArray⟩ : ByteArray) = T := ⟨_, rfl⟩
    rw [hTT] at CM CG
    have CTT := Lib.hid (fun (W : World) (hb : Below w.heap.size w W) => laws_test a1 zs.length cap1 zs false W HN.out (HL.out.later hb) (by omega))
    have CN := Lib.hid (fun (W : World) => laws_table_nil W)
    clear hTT hgl hfl hdm hrl hsm hrs hw HL HN
    go_enter Tryd.func8, Tryd.ntmps8
    go_wp2_with fail
    refine (CW.out _).mono ?_; rintro e w1 ⟨rfl, hb1⟩
    have B1 := Lib.hid hb1; clear hb1
    go_wp2_with fail
    go_loopw [5, 11] (fun v vi wr => ∃ k : Nat, k ≤ zs.length ∧ vi = .int .i64 (k : Int) ∧ Hid (wr.ownsRow w.heap.size 21 1 v k (ivals (List.replicate k (-1)))) ∧ Hid (Below w.heap.size w wr)) (fun _ vi _ => zs.length - (intOf vi).toNat)
    case atStart => exact ⟨0, Nat.zero_le _, rfl, ⟨rfl, .inl ⟨rfl, rfl⟩⟩, B1.out⟩
    case round =>
      clear B1
      obtain ⟨k, hk, rfl, HO, HB⟩ := hrel
      have hsz := HB.out.size
      by_cases hlt : k < zs.length
      · have HTK := Lib.hid (ivals_snoc k)
        go_wp2_with (at_builtin; refine wpList_append_own _ rfl _ _ 33 rfl w.heap.size 21 i0 (.int .i32 0) 1 4 Tryd.underlying33 hi hz0 hz1 hz2 rfl (by decide) u5 k (ivals (List.replicate k (-1))) rfl (HO.out.alloc _) ⟨wr.heap.size, 0, none⟩ 1 1 [.int .i32 (-1)] rfl rfl (cells_new _ [.int .i32 (-1)] _) (by simp [Value.oneCell']) (by unfold maxLen; omega) (by omega) (by simp; omega) ?_; intro v' w3 hown3 hgrow3 hnil3)
        have HO3 := Lib.hid (show w3.ownsRow w.heap.size 21 1 v' (k + 1) (ivals (List.replicate (k + 1) (-1))) by rw [HTK.out]; exact hown3)
        have HB3 := Lib.hid ((HB.out.alloc hsz _).grown hgrow3 (by simp; omega) (fun q e => (HO.out.lt q e).1))
        clear hown3 hgrow3 hnil3
        go_wp2_with fail
        exact ⟨⟨k + 1, by omega, by go_num, HO3.out, HB3.out⟩, by simp [intOf]; omega⟩
      · obtain rfl : k = zs.length := by omega
        obtain ⟨nb, nc, rfl⟩ := own_slice HO.out
        have LN := Lib.hid (Lies.of_own HO.out)
        clear HO
        go_wp2_with fail
        refine (CT.out nb nc _ HB.out LN.out).mono ?_; rintro e w2 ⟨ta, tc, rfl, hl2, hb2⟩
        have B2 := Lib.hid (HB.out.trans (hb2.mono HB.out.size)); have L2 := Lib.hid hl2; clear hb2 hl2
        go_wp2_with fail
        refine (CM.out ta tc _ B2.out L2.out).mono ?_; rintro e w3 ⟨rfl, hb3⟩
        have B3 := Lib.hid (B2.out.trans (hb3.mono B2.out.size)); clear hb3
        go_wp2_with fail
        refine (CTT.out _ B3.out).mono ?_; rintro e w4 ⟨a', c', rfl, hl4, hb4⟩
        have B4 := Lib.hid (B3.out.trans (hb4.mono B3.out.size)); have L4 := Lib.hid hl4; clear hb4 hl4
        go_wp2_with fail
        refine (CF.out a' c' _ L4.out).mono ?_; rintro e w5 ⟨g5, c5, rfl, ho5, hb5⟩
        have B5 := Lib.hid (B4.out.trans (hb5.mono B4.out.size)); have L5 := Lib.hid (show Lies w5 w5.heap.size 1 (some ⟨g5, 0, none⟩) L.length (strs L) from Lies.of_own ho5); clear hb5 ho5
        go_wp2_with fail
        refine (CG.out _ c5 _ L5.out).mono ?_; rintro e w6 ⟨rfl, hb6⟩
        have B6 := Lib.hid (B5.out.trans (hb6.mono B5.out.size)); clear hb6
        go_wp2_with fail
        refine (CN.out _).mono ?_; rintro e w7 ⟨rfl, hb7⟩
        have B7 := Lib.hid (B6.out.trans (hb7.mono B6.out.size)); clear hb7
        go_wp2_with fail
        refine (C4.out _ B7.out).mono ?_; rintro e w8 ⟨rfl, hb8⟩
        have B8 := Lib.hid (B7.out.trans (hb8.mono B7.out.size)); clear hb8
        go_wp2_with fail
        go_ret
        exact ⟨by first | rfl | simp, B8.out⟩

set_option maxRecDepth 100000 in
theorem contract (H : Type) (enc : TypeId × Value → H) (W : World) (base : Nat) (args : Array Value) (ds gs : List (DataW H)) (before : List MemPlace)
    (hval0 : ∀ (j : Nat) t v, Tryd.f8.params[j]? = some t → args[j]? = some v → Value.okWide Tryd.prog W .any base t v)
    (hW : DataW.Whole enc Tryd.prog Tryd.f8.params.toList Rows.fnFieldsFuncDropSpec.vars false W args.toList ds gs before)
    (hsz0 : (DataW.weightsEach Tryd.prog (Tryd.f8.params.toList ++ Rows.fnFieldsFuncDropSpec.plain.varTypes Tryd.prog) (ds ++ gs)).all (· ≤ reachBytes) = true) (hk : Rows.uptoSmall H (ds ++ gs) = true) (hL : laidMetH Tryd.prog Rows.fnFieldsFuncDropUptoRow.laid W) :
    Calls Tryd.prog 8 args W fun e W' => ∃ v, e = .returned v ∧ Rows.fnFieldsFuncDropSpec.post enc Tryd.prog Tryd.f8 false true false false W args v W' := by
  have hval := hval0
  have hsz := hsz0
  clear hval0 hsz0
  have hW' := hW
  obtain ⟨p, q, hA0, hV, rfl, hfz, hnd⟩ := hW
  have hA : DataW.TrodAll enc Tryd.prog W 0 (fun _ => true) true Tryd.f8.params.toList args.toList ds p := hA0
  rw [Tryd.params8] at hA hval hsz
  obtain ⟨v0, vs0, d0, ds0, p0, q0, hargs, rfl, rfl, h0, r0x⟩ := trodAll_cons hA
  obtain ⟨v1, vs1, d1, ds1, p1, q1, rfl, rfl, rfl, h1, r1x⟩ := trodAll_cons r0x
  obtain ⟨rfl, rfl, rfl⟩ := trodAll_nil r1x
  obtain rfl : args = #[v0, v1] := by cases args; simp_all
  obtain ⟨rfl, rfl⟩ := trodVars_none hV
  have hbulk := of_decide_eq_true hk
  obtain ⟨a0, rfl, rfl, rfl, x0⟩ := open_string Tryd.underlying9 (hval 0 9 v0 rfl rfl) h0
  obtain ⟨a1, len1, cap1, rfl⟩ := okWide_slice Tryd.underlying33 (hval 1 33 v1 rfl rfl)
  have k1 := h1
  have lt1 : ∀ x ∈ p1, x.block < W.heap.size := by obtain ⟨m, hm⟩ := k1; exact DataW.trod_lt m _ _ _ hm
  obtain ⟨z1, w1, r1⟩ : ∃ zs, IsRow .i32 W a1 len1 cap1 zs ∧ cap1 ≤ 1048576 := by
    obtain ⟨fuel, hf⟩ := h1
    rcases open_ints Tryd.underlying33 Tryd.underlying21 (by kernel_rfl) hf with ⟨hcs, _⟩ | ⟨x, l, c, zs, hcs, _, hl, hm, hz, hd, hcell, hwz⟩
    · simp [Value.cells] at hcs
      obtain ⟨rfl, rfl, rfl⟩ := hcs
      exact ⟨[], .inl ⟨rfl, rfl, rfl, rfl⟩, by omega⟩
    · simp [Value.cells] at hcs
      obtain ⟨rfl, rfl, rfl⟩ := hcs
      simp only [if_true] at hz
      simp only [Prod.mk.injEq] at hd
      refine ⟨zs, .inr ⟨_, rfl, hl, hm, hz, hcell, hwz⟩, ?_⟩
      obtain ⟨hd, -⟩ := hd
      subst hd
      simp only [Rows.uptoBulkAll, Rows.uptoBulk, List.append_nil] at hbulk
      have e1 := bulk_len .i32 (H := H) (zs.take len1)
      have e2 := bulk_len .i32 (H := H) (zs.drop len1)
      simp only [List.length_take, List.length_drop] at e1 e2
      omega
  clear hA0
  have w0 : a0.size ≤ 1048576 := by
    simp only [Rows.uptoBulkAll, Rows.uptoBulk, List.append_nil] at hbulk
    have e : a0.data.toList.length = a0.size := by rw [Array.length_toList]; rfl
    omega
  refine (walk a0 a1 len1 cap1 z1 W w0 w1 r1 (tabs_of hL (by unfold Rows.fnFieldsFuncDropUptoRow; simp) (by unfold Rows.fnFieldsFuncDropUptoRow; simp))).mono fun e W' ⟨he, bel⟩ => ?_
  subst he
  exact ⟨_, rfl, _, _, _, [], _, [], hW', trodAll_mk1 (shut_bool Tryd.underlying4 _), (trodAll_cons_mk (shut_string Tryd.underlying9 x0) (trodAll_cons_mk (Below.trod laidOut (by kernel_rfl) (of_decide_eq_true (by kernel_rfl)) k1 bel lt1) trodAll_mk0)), rfl, bel.frame _, fun h => by cases h⟩

theorem laid_met (os : Os) : laidMet Tryd.prog Rows.fnFieldsFuncDropUptoRow.laid ((laidWorld os).forCall (fun _ _ => 0) ⟨#[], #[.string ByteArray.empty, .slice none 0 0], []⟩).memory :=
  laidMet_of_run' 8 (by kernel_rfl) (by kernel_rfl)
theorem reads (os : Os) {H : Type} (enc : TypeId × Value → H) : ∃ places, DataW.whole enc Tryd.prog ((laidWorld os).forCall (fun _ _ => 0) ⟨#[], #[.string ByteArray.empty, .slice none 0 0], []⟩).memory Tryd.f8.params.toList Rows.fnFieldsFuncDropSpec.vars false (#[.string ByteArray.empty, .slice none 0 0] : Array Value).toList 8 = some ([.lit (.string []), .nil], [], places) :=
  ⟨[], by kernel_rfl⟩
set_option maxRecDepth 100000 in
theorem lifted (os : Os) (started : os.Started) (H : Type) (enc : TypeId × Value → H) (F : Stop.Interp) :
    ReturnsInHanded {} Tryd.checked os 8 .any ((Rows.OpenSpec.upto Rows.fnFieldsFuncDropSpec).preRow enc Tryd.prog Tryd.f8 Rows.fnFieldsFuncDropUptoRow.domain false Rows.fnFieldsFuncDropUptoRow.laid) (((Rows.OpenSpec.upto Rows.fnFieldsFuncDropSpec).at F).post enc Tryd.prog Tryd.f8 false true false false) := by
  obtain ⟨places, hx⟩ := reads os enc
  refine returnsInHanded_of_row (C := Tryd.checked) (s := Rows.OpenSpec.upto Rows.fnFieldsFuncDropSpec) own started (by kernel_rfl) Tryd.func8
    (witness_row_at (enc := enc) (C := Tryd.checked) false (laidWorld os) #[.string ByteArray.empty, .slice none 0 0] rfl (by kernel_rfl) (by kernel_rfl) (by kernel_rfl)
      (OpenSpec.preRow_of_cond 8 hx (by kernel_rfl) (fun k hk => by cases hk; kernel_rfl) (by kernel_rfl) (laid_met os))) ?_
  intro W base args ds gs before hval0 hW _ hcond hsz0 hL _ _
  exact contract H enc W base args ds gs before hval0 hW hsz0 (hcond _ rfl) hL

theorem said : Rows.FnFieldsFuncDropUptoSaid :=
  OpenClaim.holds_of_cond 8 Tryd.f8 rfl rfl rfl rfl rfl rfl rfl ⟨rfl, rfl, rfl, rfl, rfl⟩ rfl rfl rfl rfl rfl (by kernel_rfl) Tryd.func8 (by kernel_rfl)
    (of_decide_eq_true (by kernel_rfl)) (by unfold Func.isWrapper; first | (rw [if_pos (by decide +kernel)]; kernel_rfl) | (rw [if_neg (by decide +kernel)]; exact ⟨rfl, rfl⟩))
    (fun os started H enc _ F => by rw [OpenClaim.pre_eq_preRow]; exact lifted os started H enc F)

theorem plain (f : FuncId) (fn : Func) (hf : Tryd.pinned.checked.prog.funcNamed Rows.fnFieldsFuncDropUptoRow.func = some f) (hfn : Tryd.pinned.checked.prog.funcs[f]? = some fn) :
    false = Tryd.pinned.checked.prog.looks [] ∧ ∀ (j : Nat) t, fn.params[j]? = some t → Tryd.pinned.checked.prog.wantsStandIn t = false := by
  obtain rfl : f = 8 := Option.some.inj ((show Tryd.prog.funcNamed Rows.fnFieldsFuncDropUptoRow.func = some 8 by kernel_rfl).symm.trans hf) |>.symm
  obtain rfl : fn = Tryd.f8 := (Option.some.inj (Tryd.func8.symm.trans hfn)).symm
  refine ⟨by kernel_rfl, fun j t ht => ?_⟩
  rw [Tryd.params8] at ht
  have hm := Array.mem_of_getElem? ht
  simp only [List.mem_toArray, List.mem_cons, List.mem_nil_iff, or_false] at hm
  rcases hm with rfl | rfl
  · exact (show Tryd.prog.wantsStandIn 9 = false by kernel_rfl)
  · exact (show Tryd.prog.wantsStandIn 33 = false by kernel_rfl)

theorem proved : Rows.FnFieldsFuncDropUptoCardSaid :=
  Claim7.holds_tied_plain_at .later [] _ _ _ _ said (fun _ h => by cases h) (by kernel_rfl) (fun _ h => by cases h) fnFieldsFuncDropUpto_row_tie rfl ⟨rfl, rfl⟩ (by kernel_rfl) rfl plain (by kernel_rfl)
#print axioms proved
end Go.Proofs.YtlgibcphfmjddaaDoor.fnFieldsFuncDropUpto
