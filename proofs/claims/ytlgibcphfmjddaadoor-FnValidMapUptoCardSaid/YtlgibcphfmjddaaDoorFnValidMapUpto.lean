/-
  For every text the law FnValidMap returns true and changes nothing: a text is mended, or mapped to itself, to one that has the same sequences: without U+FFFD both are the same. Condition: what comes in is of bulk at most 1048576 (the second form).
-/
import Derived.Test.YtlgibcphfmjddaaDoorCards
import Derived.Test.YtlgibcphfmjddaaDoorTie
import Derived.Test.YtlgibcphfmjddaaDoorTabs
import Derived.Test.YtlgibcphfmjddaaDoorMapT
import Derived.Test.YtlgibcphfmjddaaDoorMapC
import Derived.Test.YtlgibcphfmjddaaDoorSpecV
import Derived.Test.YtlgibcphfmjddaaDoorValid2
import Derived.Deep.RegionHeld3
import Derived.WalkKit
import Derived.ProofKit
import Derived.OpenShut
import Derived.ShutString
import Derived.ChangeOld
import Derived.Below
import Derived.SizedLaws
import Derived.Lib.SmallJoins
import Derived.Deep.CondSized
import Derived.Deep.DeepHandedRow
import Derived.Deep.DeepWitnessRowRef
namespace Go.Proofs.YtlgibcphfmjddaaDoor.fnValidMapUpto
open Go.ChangeShapes Go.WideShapes Go.ChangeAt Go.RowKit Go.Joins
open Go.ChangeMaps (open_string shut_string)
set_option linter.unusedVariables false

theorem own : ownKnob Tryd.prog.godebug = none := by kernel_rfl
theorem laidOut : laidOutB Tryd.prog = true := by kernel_rfl
def yF : List UInt8 := [239, 191, 189]
theorem chs_yF : chs yF = [(65533, yF)] := by
  have h := enc_chs 65533
  have h1 : Lib.encodeRune 65533 = yF := by decide
  have h2 : encC 65533 = (65533, yF) := by unfold encC; rw [h1]; rfl
  rw [h1, h2] at h
  exact h
theorem mend_drop (f : Int → Int) (hf : ¬ 0 ≤ f 65533) : ∀ (cs : List Ch) (i : Bool), (∀ c ∈ cs, chs c.2 = [c]) → ∃ ds, mendC yF i cs = cat ds ∧ (∀ c ∈ ds, chs c.2 = [c] ∧ okC c = true) ∧ mapCh f ds = mapCh f cs ∧ (i = false → cs ≠ [] → ds ≠ [])
  | [], i, _ => ⟨[], rfl, fun _ h => by simp at h, rfl, fun _ h => absurd rfl h⟩
  | c :: cs, i, h => by
    rw [mendC]
    split
    · rename_i ho
      obtain ⟨ds, h1, h2, h3, _⟩ := mend_drop f hf cs false (fun d hd => h d (by simp [hd]))
      refine ⟨c :: ds, by rw [h1, cat_cons], fun d hd => ?_, ?_, fun _ _ => by simp⟩
      · rcases List.mem_cons.1 hd with rfl | hd
        · exact ⟨h _ (by simp), ho⟩
        · exact h2 d hd
      · unfold mapCh at h3 ⊢
        rw [List.flatMap_cons, List.flatMap_cons, h3]
    · rename_i ho
      have hr : c.1 = 65533 := by simp [okC, okD] at ho; omega
      have hc : mapCh f (c :: cs) = mapCh f cs := by
        unfold mapCh
        rw [List.flatMap_cons, hr, if_neg (show ¬ 0 ≤ f ((65533 : Nat) : Int) from hf)]; rfl
      obtain ⟨ds, h1, h2, h3, _⟩ := mend_drop f hf cs true (fun d hd => h d (by simp [hd]))
      cases i
      · refine ⟨(65533, yF) :: ds, by rw [h1, cat_cons]; rfl, fun d hd => ?_, ?_, fun _ _ => by simp⟩
        · rcases List.mem_cons.1 hd with rfl | hd
          · exact ⟨chs_yF, by decide⟩
          · exact h2 d hd
        · rw [hc, ← h3]
          unfold mapCh
          rw [List.flatMap_cons, if_neg (show ¬ 0 ≤ f (((65533, yF) : Ch).1 : Int) from hf)]; rfl
      · exact ⟨ds, by rw [h1]; rfl, h2, by rw [hc, h3], fun h => by cases h⟩
theorem mend_mapped (f : Int → Int) (hf : ¬ 0 ≤ f 65533) (s y : ByteArray) (hy : y.data.toList = yF) : Lib.mapD f (mend s y) = Lib.mapD f s.data.toList ∧ (mend s y = [] ↔ s.data.toList = []) := by
  obtain ⟨ds, h1, h2, h3, h4⟩ := mend_drop f hf (chs s.data.toList) false (fun c hc => chs_mem hc)
  unfold mend
  rw [hy, h1]
  have h5 := chs_oks ds h2 []
  rw [List.append_nil, chs_nil, List.append_nil] at h5
  refine ⟨by rw [map_cat, h5, h3, ← map_cat], ?_⟩
  constructor
  · intro h
    rw [h, chs_nil] at h5
    rcases hcs : chs s.data.toList with _ | ⟨c, cs⟩
    · exact chs_eq_nil.1 hcs
    · exact absurd h5.symm (h4 rfl (by rw [hcs]; simp))
  · intro h
    rw [h] at h1
    rw [← h1]; rfl
theorem one_lies {w : World} {g t : Nat} {x : Int} (h : Box w g t #[.int .i32 x]) : Lies w w.heap.size 1 (some ⟨g, 0, none⟩) 1 (ivals [x]) := by
  refine ⟨rfl, fun _ => ⟨g, 0, rfl, h.lt, fun j hj => ?_⟩⟩
  obtain rfl : j = 0 := by simp [ivals] at hj; exact hj
  exact h.cell 0
set_option maxRecDepth 100000 in
set_option maxHeartbeats 4000000 in
theorem walk (a0 : ByteArray) (w : World) (w0 : a0.size ≤ 1048576) (hT : Tabs w) :
    Calls Tryd.prog 7 #[.string a0] w fun e w' => e = .returned (.bool true) ∧ Below w.heap.size w w' := by
  have HT := Lib.hid hT; clear hT
  obtain ⟨rs, hrs⟩ : ∃ rs : List (Int × Int), [(65533, -1)] = rs := ⟨_, rfl⟩
  have hrl : rs.length ≤ 35184372088832 := by rw [← hrs]; simp
  have hsm : Small rs := by rw [← hrs]; intro r hr; simp at hr; subst hr; simp
  have hfn : ¬ 0 ≤ imgB rs 65533 := by rw [← hrs]; decide
  have CT := Lib.hid (fun (g g' : Nat) (W : World) (h1 : Box W g 21 #[.int .i32 65533]) (h2 : Box W g' 21 #[.int .i32 (-1)]) => laws_table (some ⟨g, 0, none⟩) (some ⟨g', 0, none⟩) 1 1 1 1 [65533] [-1] W (one_lies h1) (one_lies h2) (by omega) (by omega))
  rw [show ([65533] : List Int).zip [-1] = rs from hrs] at CT
  obtain ⟨f, hf⟩ : ∃ f, imgB rs = f := ⟨_, rfl⟩
  rw [hf] at hfn
  obtain ⟨y, hy⟩ : ∃ y : ByteArray, (⟨#[239, 191, 189]⟩ : ByteArray) = y := ⟨_, rfl⟩
  have hys : y.size = 3 := by rw [← hy]; rfl
  obtain ⟨hm1, hm2⟩ := mend_mapped f hfn a0 y (by rw [← hy]; rfl)
  have hle := mend_le a0 y
  rw [hys] at hle
  obtain ⟨M, hM⟩ : ∃ M : ByteArray, (⟨(mend a0 y).toArray⟩ : ByteArray) = M := ⟨_, rfl⟩
  have hMd : mend a0 y = M.data.toList := by rw [← hM]
  have hMs : M.size ≤ 1099511627776 := by rw [← len_data, ← hMd]; omega
  have C1 := Lib.hid (fun (W : World) (hb : Below w.heap.size w W) => impl_ToValidUTF8 a0 y W (HT.out.below hb) (by omega) (by omega) (by omega))
  rw [hM] at C1
  rw [hMd] at hm1 hm2
  have hle0 := mend_le a0 ⟨#[]⟩
  rw [show (⟨#[]⟩ : ByteArray).size = 0 from rfl] at hle0
  have C2 := Lib.hid (fun (W : World) (hb : Below w.heap.size w W) => impl_ToValidUTF8 a0 ⟨#[]⟩ W (HT.out.below hb) (by omega) (by omega) (by rw [show (⟨#[]⟩ : ByteArray).size = 0 from rfl]; omega))
  have hw0 := mend_mend a0 ⟨#[]⟩ (by rfl)
  obtain ⟨N, hN⟩ : ∃ N : ByteArray, (⟨(mend a0 ⟨#[]⟩).toArray⟩ : ByteArray) = N := ⟨_, rfl⟩
  have hNd : mend a0 ⟨#[]⟩ = N.data.toList := by rw [← hN]
  have hNs : N.size ≤ 1099511627776 := by rw [← len_data, ← hNd]; omega
  rw [hN] at C2
  rw [hNd] at hw0
  have CW := Lib.hid (fun (W : World) => spec_Whole N W hNs)
  rw [hw0] at CW
  have C3 := Lib.hid (fun (a : Option Addr) (c : Nat) (W : World) (hb : Below w.heap.size w W) (h : Lies W W.heap.size 2 a rs.length (rcells rs)) => impl_Map a c rs a0 W (by omega) (HT.out.below hb) h hrl hsm)
  have C4 := Lib.hid (fun (a : Option Addr) (c : Nat) (W : World) (hb : Below w.heap.size w W) (h : Lies W W.heap.size 2 a rs.length (rcells rs)) => impl_Map a c rs M W hMs (HT.out.below hb) h hrl hsm)
  rw [hf] at C3 C4
  rw [hm1] at C4
  obtain ⟨T, hTT⟩ : ∃ T : ByteArray, (⟨(Lib.mapD f a0.data.toList).toArray⟩ : ByteArray) = T := ⟨_, rfl⟩
  rw [hTT] at C3 C4
  have hee : M.toList.isEmpty = a0.toList.isEmpty := by
    rw [Lib.toList_data, Lib.toList_data]
    have : (M.data.toList.isEmpty = true) = (a0.data.toList.isEmpty = true) := by rw [List.isEmpty_iff, List.isEmpty_iff]; exact propext hm2
    exact Bool.eq_iff_iff.2 (by rw [this])
  have hrln : rs.length = 1 := by rw [← hrs]; rfl
  rw [← hy] at C1
  rw [hrln] at C3 C4
  clear hy hys hm1 hm2 hle hM hMd hMs hle0 hw0 hN hNd hNs hTT hf hfn hrs hrl hsm
  have HW1 := Lib.hid (((Below.refl w.heap.size w).alloc (Nat.le_refl _) (.cells #[.int .i32 65533] 21)).alloc (by simp) (.cells #[.int .i32 (-1)] 21))
  have HX1 := Lib.hid ((Box.new w 21 #[.int .i32 65533]).alloc (.cells #[.int .i32 (-1)] 21))
  have HX2 : Hid (Box ((w.alloc (.cells #[.int .i32 65533] 21)).alloc (.cells #[.int .i32 (-1)] 21)) (w.heap.size + 1) 21 #[.int .i32 (-1)]) := by
    have := Box.new (w.alloc (.cells #[.int .i32 65533] 21)) 21 #[.int .i32 (-1)]; rwa [World.size_alloc] at this
  go_enter Tryd.func7, Tryd.ntmps7
  go_wp2_with fail
  refine (CT.out _ _ _ HX1.out HX2.out).mono ?_; rintro e w2 ⟨ta, tc, rfl, hl2, hb2⟩
  have hb2' := HW1.out.trans (hb2.mono HW1.out.size)
  rw [hrln]
  rw [hrln] at hl2
  have hwa : Below w2.heap.size w2 (w2.alloc (.cells #[.slice ta 1 tc] 29)) := (Below.refl _ w2).alloc (Nat.le_refl _) _
  have B7 := Lib.hid (hb2'.trans (hwa.mono hb2'.size)).drew; have L7 := Lib.hid (hl2.later hwa); have ZX := Lib.hid (Box.new w2 29 #[.slice ta 1 tc])
  clear hb2 hb2' hl2 hwa HW1 HX1 HX2 hrln
  go_wp2_with fail
  generalize w2.heap.size = X at *
  generalize w2.alloc (.cells #[.slice ta 1 tc] 29) = w3 at *
  have hxc : w3.cell? ⟨X, 0, none⟩ = some (.slice ta 1 tc) := ZX.out.cell 0
  have hxl := ZX.out.lt
  have L7 : Hid (Lies w3.drew w3.drew.heap.size 2 ta 1 (rcells rs)) := L7.out
  have ZX : Hid (Box w3.drew X 29 #[.slice ta 1 tc]) := ZX.out
  go_region_held3 (fun w' => w'.cell? ⟨X, 0, none⟩ = some (.slice ta 1 tc)) (first | go_keep | exact ZX.out.cell 0)
    (first
      | (go_at_call 17; refine (C3.out ta tc _ (by exact B7.out) (by exact L7.out)).mono ?_; rintro e w6 ⟨rfl, hb6⟩; have B7 := Lib.hid (B7.out.trans (hb6.mono B7.out.size)); have L7 := Lib.hid (L7.out.later hb6); have ZX := Lib.hid (ZX.out.later hb6); clear hb6)
      | (go_at_call 17; refine (C4.out ta tc _ (by exact B7.out) (by exact L7.out)).mono ?_; rintro e w6 ⟨rfl, hb6⟩; have B7 := Lib.hid (B7.out.trans (hb6.mono B7.out.size)); have L7 := Lib.hid (L7.out.later hb6); have ZX := Lib.hid (ZX.out.later hb6); clear hb6)
      | (go_at_call 24; refine (C1.out _ (by exact B7.out)).mono ?_; rintro e w7 ⟨rfl, hb6⟩; have B7 := Lib.hid (B7.out.trans (hb6.mono B7.out.size)); have L7 := Lib.hid (L7.out.later hb6); have ZX := Lib.hid (ZX.out.later hb6); clear hb6)
      | (go_at_call 24; refine (C2.out _ (by exact B7.out)).mono ?_; rintro e w8 ⟨rfl, hb6⟩; have B7 := Lib.hid (B7.out.trans (hb6.mono B7.out.size)); have L7 := Lib.hid (L7.out.later hb6); have ZX := Lib.hid (ZX.out.later hb6); clear hb6)
      | (go_at_call 22; refine (CW.out _).mono ?_; rintro e w9 ⟨rfl, hb6⟩; have B7 := Lib.hid (B7.out.trans (hb6.mono B7.out.size)); have L7 := Lib.hid (L7.out.later hb6); have ZX := Lib.hid (ZX.out.later hb6); clear hb6))
  go_wp2_with fail
  go_ret
  exact ⟨by first | rfl | simp [hee], B7.out⟩

set_option maxRecDepth 100000 in
theorem contract (H : Type) (enc : TypeId × Value → H) (W : World) (base : Nat) (args : Array Value) (ds gs : List (DataW H)) (before : List MemPlace)
    (hval0 : ∀ (j : Nat) t v, Tryd.f7.params[j]? = some t → args[j]? = some v → Value.okWide Tryd.prog W .any base t v)
    (hW : DataW.Whole enc Tryd.prog Tryd.f7.params.toList Rows.fnValidMapSpec.vars false W args.toList ds gs before)
    (hsz0 : (DataW.weightsEach Tryd.prog (Tryd.f7.params.toList ++ Rows.fnValidMapSpec.plain.varTypes Tryd.prog) (ds ++ gs)).all (· ≤ reachBytes) = true) (hk : Rows.uptoSmall H (ds ++ gs) = true) (hL : laidMetH Tryd.prog Rows.fnValidMapUptoRow.laid W) :
    Calls Tryd.prog 7 args W fun e W' => ∃ v, e = .returned v ∧ Rows.fnValidMapSpec.post enc Tryd.prog Tryd.f7 false true false false W args v W' := by
  have hval := hval0
  have hsz := hsz0
  clear hval0 hsz0
  have hW' := hW
  obtain ⟨p, q, hA0, hV, rfl, hfz, hnd⟩ := hW
  have hA : DataW.TrodAll enc Tryd.prog W 0 (fun _ => true) true Tryd.f7.params.toList args.toList ds p := hA0
  rw [Tryd.params7] at hA hval hsz
  obtain ⟨v0, vs0, d0, ds0, p0, q0, hargs, rfl, rfl, h0, r0x⟩ := trodAll_cons hA
  obtain ⟨rfl, rfl, rfl⟩ := trodAll_nil r0x
  obtain rfl : args = #[v0] := by cases args; simp_all
  obtain ⟨rfl, rfl⟩ := trodVars_none hV
  have hbulk := of_decide_eq_true hk
  obtain ⟨a0, rfl, rfl, rfl, x0⟩ := open_string Tryd.underlying9 (hval 0 9 v0 rfl rfl) h0
  clear hA0
  have w0 : a0.size ≤ 1048576 := by
    simp only [Rows.uptoBulkAll, Rows.uptoBulk, List.append_nil] at hbulk
    have e : a0.data.toList.length = a0.size := by rw [Array.length_toList]; rfl
    omega
  refine (walk a0 W w0 (tabs_of hL (by unfold Rows.fnValidMapUptoRow; simp) (by unfold Rows.fnValidMapUptoRow; simp))).mono fun e W' ⟨he, bel⟩ => ?_
  subst he
  exact ⟨_, rfl, _, _, _, [], _, [], hW', trodAll_mk1 (shut_bool Tryd.underlying4 _), (trodAll_cons_mk (shut_string Tryd.underlying9 x0) trodAll_mk0), rfl, bel.frame _, fun h => by cases h⟩

theorem laid_met (os : Os) : laidMet Tryd.prog Rows.fnValidMapUptoRow.laid ((laidWorld os).forCall (fun _ _ => 0) ⟨#[], #[.string ByteArray.empty], []⟩).memory :=
  laidMet_of_run' 8 (by kernel_rfl) (by kernel_rfl)
theorem reads (os : Os) {H : Type} (enc : TypeId × Value → H) : ∃ places, DataW.whole enc Tryd.prog ((laidWorld os).forCall (fun _ _ => 0) ⟨#[], #[.string ByteArray.empty], []⟩).memory Tryd.f7.params.toList Rows.fnValidMapSpec.vars false (#[.string ByteArray.empty] : Array Value).toList 8 = some ([.lit (.string [])], [], places) :=
  ⟨[], by kernel_rfl⟩
set_option maxRecDepth 100000 in
theorem lifted (os : Os) (started : os.Started) (H : Type) (enc : TypeId × Value → H) (F : Stop.Interp) :
    ReturnsInHanded {} Tryd.checked os 7 .any ((Rows.OpenSpec.upto Rows.fnValidMapSpec).preRow enc Tryd.prog Tryd.f7 Rows.fnValidMapUptoRow.domain false Rows.fnValidMapUptoRow.laid) (((Rows.OpenSpec.upto Rows.fnValidMapSpec).at F).post enc Tryd.prog Tryd.f7 false true false false) := by
  obtain ⟨places, hx⟩ := reads os enc
  refine returnsInHanded_of_row (C := Tryd.checked) (s := Rows.OpenSpec.upto Rows.fnValidMapSpec) own started (by kernel_rfl) Tryd.func7
    (witness_row_at (enc := enc) (C := Tryd.checked) false (laidWorld os) #[.string ByteArray.empty] rfl (by kernel_rfl) (by kernel_rfl) (by kernel_rfl)
      (OpenSpec.preRow_of_cond 8 hx (by kernel_rfl) (fun k hk => by cases hk; kernel_rfl) (by kernel_rfl) (laid_met os))) ?_
  intro W base args ds gs before hval0 hW _ hcond hsz0 hL _ _
  exact contract H enc W base args ds gs before hval0 hW hsz0 (hcond _ rfl) hL

theorem said : Rows.FnValidMapUptoSaid :=
  OpenClaim.holds_of_cond 7 Tryd.f7 rfl rfl rfl rfl rfl rfl rfl ⟨rfl, rfl, rfl, rfl, rfl⟩ rfl rfl rfl rfl rfl (by kernel_rfl) Tryd.func7 (by kernel_rfl)
    (of_decide_eq_true (by kernel_rfl)) (by unfold Func.isWrapper; first | (rw [if_pos (by decide +kernel)]; kernel_rfl) | (rw [if_neg (by decide +kernel)]; exact ⟨rfl, rfl⟩))
    (fun os started H enc _ F => by rw [OpenClaim.pre_eq_preRow]; exact lifted os started H enc F)

theorem plain (f : FuncId) (fn : Func) (hf : Tryd.pinned.checked.prog.funcNamed Rows.fnValidMapUptoRow.func = some f) (hfn : Tryd.pinned.checked.prog.funcs[f]? = some fn) :
    false = Tryd.pinned.checked.prog.looks [] ∧ ∀ (j : Nat) t, fn.params[j]? = some t → Tryd.pinned.checked.prog.wantsStandIn t = false := by
  obtain rfl : f = 7 := Option.some.inj ((show Tryd.prog.funcNamed Rows.fnValidMapUptoRow.func = some 7 by kernel_rfl).symm.trans hf) |>.symm
  obtain rfl : fn = Tryd.f7 := (Option.some.inj (Tryd.func7.symm.trans hfn)).symm
  refine ⟨by kernel_rfl, fun j t ht => ?_⟩
  rw [Tryd.params7] at ht
  have hm := Array.mem_of_getElem? ht
  simp only [List.mem_toArray, List.mem_cons, List.mem_nil_iff, or_false] at hm
  subst hm
  exact (show Tryd.prog.wantsStandIn 9 = false by kernel_rfl)

theorem proved : Rows.FnValidMapUptoCardSaid :=
  Claim7.holds_tied_plain_at .later [] _ _ _ _ said (fun _ h => by cases h) (by kernel_rfl) (fun _ h => by cases h) fnValidMapUpto_row_tie rfl ⟨rfl, rfl⟩ (by kernel_rfl) rfl plain (by kernel_rfl)
#print axioms proved
end Go.Proofs.YtlgibcphfmjddaaDoor.fnValidMapUpto
