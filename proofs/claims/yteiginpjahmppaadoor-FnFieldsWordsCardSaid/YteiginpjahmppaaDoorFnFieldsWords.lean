/-
  For every text the law FnFieldsWords returns true and changes nothing: no field is empty or has white space, each stands in the text, and between blanks they are the same again, or the bound is passed. No condition.
-/
import Derived.Test.YteiginpjahmppaaDoorCards
import Derived.Test.YteiginpjahmppaaDoorTie
import Derived.Test.YteiginpjahmppaaDoorTabs
import Derived.Test.YteiginpjahmppaaDoorSpaceF
import Derived.Test.YteiginpjahmppaaDoorFieldsI
import Derived.Test.YteiginpjahmppaaDoorWords
import Derived.Test.YteiginpjahmppaaDoorWordJ
import Derived.Test.YteiginpjahmppaaDoorSame
import Derived.Test.YteiginpjahmppaaDoorSpecB
import Derived.WalkKit
import Derived.ProofKit
import Derived.OpenShut
import Derived.ShutString
import Derived.ChangeOld
import Derived.Below
import Derived.SizedLaws
import Derived.Lib.SmallJoins
import Derived.Deep.CondSized
import Derived.Deep.DeepHandedRow
import Derived.Deep.DeepWitnessRowRef
namespace Go.Proofs.YteiginpjahmppaaDoor.fnFieldsWords
open Go.ChangeShapes Go.WideShapes Go.ChangeAt Go.RowKit Go.Joins
open Go.ChangeMaps (open_string shut_string)
set_option linter.unusedVariables false

theorem own : ownKnob Tryd.prog.godebug = none := by kernel_rfl
theorem laidOut : laidOutB Tryd.prog = true := by kernel_rfl
theorem part_in (s : ByteArray) (a b : Nat) (h1 : a ≤ b) (h2 : b ≤ s.size) : 0 ≤ Lib.index s.data.toList (s.extract a b).data.toList := by
  have hl := len_data s
  have he : (s.extract a b).data.toList = (s.data.toList.drop a).take (b - a) := cut_list s (a, b)
  have hlen : (s.extract a b).data.toList.length = b - a := by rw [he, List.length_take, List.length_drop]; omega
  rcases Lib.index_spec s.data.toList (s.extract a b).data.toList with ⟨_, h⟩ | ⟨i, h, _⟩
  · exfalso
    have := h a (by omega)
    rw [Lib.occAt_iff_take _ _ _ (by omega), hlen, he] at this
    simp at this
  · rw [h]; omega
theorem lies_at {w : World} {g k : Nat} {l : List ByteArray} (h : Lies w w.heap.size 1 (some ⟨g, 0, none⟩) l.length (strs l)) (hk : k < l.length) : w.cell? ⟨g, k, none⟩ = some (.string l[k]) ∧ g < w.heap.size := by
  obtain ⟨g', o', e, hg, hcl⟩ := h.2 (by omega)
  have e1 : g = g' ∧ 0 = o' := by simpa using e
  obtain ⟨rfl, rfl⟩ := e1
  have hks : k < (strs l).length := by simp [strs]; exact hk
  have := hcl k hks
  rw [Nat.zero_add] at this
  rw [this, strs_at hk hks]
  exact ⟨rfl, hg⟩
theorem lies_lit (w : World) (F : ByteArray) (t : TypeId) : Lies (w.alloc (.cells #[.string F] t)) (w.alloc (.cells #[.string F] t)).heap.size 1 (some ⟨w.heap.size, 0, none⟩) [F].length (strs [F]) := by
  refine ⟨rfl, fun _ => ⟨w.heap.size, 0, rfl, by simp, fun j hj => ?_⟩⟩
  have : j = 0 := by simp [strs] at hj; exact hj
  subst this
  rw [World.cell?_alloc_at _ _ _ _ rfl]
  rfl
set_option maxHeartbeats 1000000 in
theorem walk (a0 : ByteArray) (w : World) (w0 : a0.size ≤ 140737488351232) (hT : Tabs w) (hS : Spaces w) :
    Calls Tryd.prog 9 #[.string a0] w fun e w' => e = .returned (.bool true) ∧ Below w.heap.size w w' := by
  have HT := Lib.hid hT; have HS := Lib.hid hS; clear hT hS
  by_cases h16 : (a0.size : Int) ≤ 16777216
  · have hE := (field_ends Lib.isSpaceR a0).none
    have hLn := fieldsP_len Lib.isSpaceR a0
    have hJs : (joinB (fieldsP Lib.isSpaceR a0) ⟨#[32]⟩).size ≤ 2147483648 := by
      have h1 := join_size (fieldsP Lib.isSpaceR a0) ⟨#[32]⟩
      have h2 := fields_sum Lib.isSpaceR a0
      have h3 : (⟨#[32]⟩ : ByteArray).size = 1 := rfl
      rw [h3] at h1
      omega
    have hJf := blank_join1 a0
    have hPF := part_first Lib.isSpaceR a0
    have hWd := field_word Lib.isSpaceR a0
    have CF := Lib.hid (fun (s : ByteArray) (hs : s.size ≤ 2147483648) (W : World) (hb : Below w.heap.size w W) => impl_Fields s W (by omega) (HS.out.below hb))
    have CT := Lib.hid (fun (s : ByteArray) (hs : s.size ≤ 1099511627776) (W : World) (hb : Below w.heap.size w W) => impl_TrimSpace s W (by omega) (HT.out.below hb) (HS.out.below hb))
    have CJ := Lib.hid (fun (a : Option Addr) (c : Nat) (W : World) (h : Lies W W.heap.size 1 a (fieldsP Lib.isSpaceR a0).length (strs (fieldsP Lib.isSpaceR a0))) (hc : (fieldsP Lib.isSpaceR a0).length ≤ c) => impl_Join a c (fieldsP Lib.isSpaceR a0) ⟨#[32]⟩ W h hc (by omega) (by omega))
    have CS := Lib.hid (fun (W : World) => spec_TrimSpace a0 W (by omega))
    have hs0 : a0.size ≤ 2147483648 := by omega
    have CF0 := Lib.hid (CF.out a0 hs0)
    have CFJ := Lib.hid (CF.out _ hJs)
    rw [hJf] at CFJ
    generalize joinB (fieldsP Lib.isSpaceR a0) ⟨#[32]⟩ = J at *
    generalize fieldsP Lib.isSpaceR a0 = L at *
    generalize trimR Lib.isSpaceR (trimL Lib.isSpaceR a0) = t at *
    have HPF := Lib.hid hPF; have HWd := Lib.hid hWd
    clear hJf hPF hWd
    obtain ⟨bt, hbt⟩ : ∃ bt, t.toList.isEmpty = bt := ⟨_, rfl⟩
    have hl0 : ((L.length : Int) == 0) = bt := by
      rw [← hbt]
      by_cases h0 : L.length = 0
      · rw [empty_yes (hE.1 h0)]; simp [h0]
      · rw [empty_no (fun h => h0 (hE.2 h))]; exact beq_eq_false_iff_ne.2 (by omega)
    clear hE
    go_enter Tryd.func9, Tryd.ntmps9
    go_wp2_with fail
    refine (CF0.out _ (Below.refl _ _)).mono ?_; rintro e w1' ⟨g, c, rfl, ho1, hb1⟩
    have B1 := Lib.hid hb1; have L1 := Lib.hid (show Lies w1' w1'.heap.size 1 (some ⟨g, 0, none⟩) L.length (strs L) from Lies.of_own ho1); have hcap := own_cap ho1
    clear hb1 ho1
    go_wp2_with fail
    refine (CS.out _).mono ?_; rintro e w2 ⟨rfl, hb2⟩
    have B2 := Lib.hid (B1.out.trans (hb2.mono B1.out.size)); have L2 := Lib.hid (L1.out.later hb2)
    clear hb2 L1
    have hbb : (bt == bt) = true := by simp
    go_wp2_with fail
    clear hl0 hbt hbb
    go_loopw [20] (fun vi wx => ∃ k : Nat, k ≤ L.length ∧ vi = .int .i64 (k : Int) ∧ Hid (Lies wx wx.heap.size 1 (some ⟨g, 0, none⟩) L.length (strs L)) ∧ Hid (Below w.heap.size w wx)) (fun vi _ => L.length - (intOf vi).toNat)
    case atStart => exact ⟨0, Nat.zero_le _, rfl, L2.out, B2.out⟩
    case round =>
      clear L2 B2
      obtain ⟨k, hk, rfl, HLI, HB⟩ := hrel
      by_cases hlt : k < L.length
      · obtain ⟨hc, hgl⟩ := lies_at HLI.out hlt
        obtain ⟨hf1, hf2, a, b, hab, hbs, hfe⟩ := HPF.out _ (List.getElem_mem hlt)
        have hcon : decide (0 ≤ Lib.index a0.data.toList L[k].data.toList) = true := by rw [hfe]; exact decide_eq_true (part_in a0 a b (by omega) hbs)
        have hfs : L[k].size ≤ 2147483648 := by rw [hfe]; have := has_part a0 a b (by omega) hbs; omega
        obtain ⟨hw1, hw2⟩ := word_fields (HWd.out _ (List.getElem_mem hlt))
        clear hfe hab hbs hf2
        generalize hF : L[k] = F at *
        have he := empty_no hf1
        have CFF := Lib.hid (CF.out F hfs); rw [hw1] at CFF
        have CTF := Lib.hid (CT.out F (by omega)); rw [hw2] at CTF
        have HC := Lib.hid hcon
        clear hf1 hcon hw1 hw2
        go_wp2_with fail
        refine (CTF.out _ HB.out).mono ?_; rintro e w3 ⟨rfl, hb3⟩
        have B3 := Lib.hid (HB.out.trans (hb3.mono HB.out.size)); have L3 := Lib.hid (HLI.out.later hb3)
        clear hb3 hc HLI HB
        go_wp2_with fail
        refine (CFF.out _ B3.out).mono ?_; rintro e w4 ⟨g4, c4, rfl, ho4, hb4⟩
        have hba : Below w4.heap.size w4 (w4.alloc (.cells #[.string F] 9)) := (Below.refl _ w4).alloc (Nat.le_refl _) _
        have B4 := Lib.hid ((B3.out.trans (hb4.mono B3.out.size)).trans (hba.mono (B3.out.trans (hb4.mono B3.out.size)).size))
        have L4 := Lib.hid ((L3.out.later hb4).later hba)
        have M4 := Lib.hid ((show Lies w4 w4.heap.size 1 (some ⟨g4, 0, none⟩) [F].length (strs [F]) from Lies.of_own ho4).later hba)
        have N4 := Lib.hid (lies_lit w4 F 9)
        clear hb4 hba ho4 L3 B3
        go_wp2_with fail
        refine (laws_same (some ⟨g4, 0, none⟩) (some ⟨w4.heap.size, 0, none⟩) c4 1 [F] _ M4.out N4.out (by simp)).mono ?_; rintro e w5 ⟨rfl, hd5⟩
        have hb5 := hd5.below (w4.alloc (.cells #[.string F] 9)).heap.size
        have B5 := Lib.hid (B4.out.trans (hb5.mono B4.out.size)); have L5 := Lib.hid (L4.out.later hb5)
        clear hd5 hb5 L4 M4 N4 B4
        go_wp2_with fail
        refine (spec_Contains a0 F (by omega) (by omega) _).mono ?_; rintro e w6 ⟨rfl, rfl⟩; rw [HC.out]
        go_wp2_with fail
        exact ⟨⟨k + 1, by omega, by go_num, L5.out, B5.out⟩, by simp [intOf]; omega⟩
      · go_wp2_with fail
        refine (CJ.out _ _ _ HLI.out hcap).mono ?_; rintro e w6 ⟨rfl, hb6⟩
        have B6 := Lib.hid (HB.out.trans (hb6.mono HB.out.size)); have L6 := Lib.hid (HLI.out.later hb6)
        clear hb6
        go_wp2_with fail
        refine (CFJ.out _ B6.out).mono ?_; rintro e w7 ⟨g7, c7, rfl, ho7, hb7⟩
        have B7 := Lib.hid (B6.out.trans (hb7.mono B6.out.size)); have L7 := Lib.hid (L6.out.later hb7); have N7 := Lib.hid (show Lies w7 w7.heap.size 1 (some ⟨g7, 0, none⟩) L.length (strs L) from Lies.of_own ho7)
        clear hb7 ho7 L6
        go_wp2_with fail
        refine (laws_same _ _ _ _ L _ N7.out L7.out (by omega)).mono ?_; rintro e w8 ⟨rfl, hd8⟩
        have B8 := Lib.hid (B7.out.trans ((hd8.below w7.heap.size).mono B7.out.size))
        clear hd8
        go_wp2_with fail
        go_ret
        exact ⟨rfl, B8.out⟩
  · go_enter Tryd.func9, Tryd.ntmps9
    go_wp2_with fail
    go_ret
    exact ⟨rfl, Below.refl _ _⟩

theorem contract (H : Type) (enc : TypeId × Value → H) (W : World) (base : Nat) (args : Array Value) (ds gs : List (DataW H)) (before : List MemPlace)
    (hval0 : ∀ (j : Nat) t v, Tryd.f9.params[j]? = some t → args[j]? = some v → Value.okWide Tryd.prog W .any base t v)
    (hW : DataW.Whole enc Tryd.prog Tryd.f9.params.toList Rows.fnFieldsWordsSpec.vars false W args.toList ds gs before)
    (hsz0 : (DataW.weightsEach Tryd.prog (Tryd.f9.params.toList ++ Rows.fnFieldsWordsSpec.plain.varTypes Tryd.prog) (ds ++ gs)).all (· ≤ reachBytes) = true) (hL : laidMetH Tryd.prog Rows.fnFieldsWordsRow.laid W) :
    Calls Tryd.prog 9 args W fun e W' => ∃ v, e = .returned v ∧ Rows.fnFieldsWordsSpec.post enc Tryd.prog Tryd.f9 false true false false W args v W' := by
  have hval := hval0
  have hsz := hsz0
  clear hval0 hsz0
  have hW' := hW
  obtain ⟨p, q, hA0, hV, rfl, hfz, hnd⟩ := hW
  have hA : DataW.TrodAll enc Tryd.prog W 0 (fun _ => true) true Tryd.f9.params.toList args.toList ds p := hA0
  rw [Tryd.params9] at hA hval hsz
  obtain ⟨v0, vs0, d0, ds0, p0, q0, hargs, rfl, rfl, h0, r0x⟩ := trodAll_cons hA
  obtain ⟨rfl, rfl, rfl⟩ := trodAll_nil r0x
  obtain rfl : args = #[v0] := by cases args; simp_all
  obtain ⟨rfl, rfl⟩ := trodVars_none hV
  obtain ⟨a0, rfl, rfl, rfl, x0⟩ := open_string Tryd.underlying9 (hval 0 9 v0 rfl rfl) h0
  clear hA0
  have w0 : a0.size ≤ 140737488351232 := by have := sized_string hsz (j := 0) (t := 9) rfl rfl; simpa [reachBytes] using this
  refine (walk a0 W w0 (tabs_of hL (by unfold Rows.fnFieldsWordsRow; simp) (by unfold Rows.fnFieldsWordsRow; simp)) (spaces_of hL (by unfold Rows.fnFieldsWordsRow; simp) (by unfold Rows.fnFieldsWordsRow; simp))).mono fun e W' ⟨he, bel⟩ => ?_
  subst he
  exact ⟨_, rfl, _, _, _, [], _, [], hW', trodAll_mk1 (shut_bool Tryd.underlying4 _), (trodAll_cons_mk (shut_string Tryd.underlying9 x0) trodAll_mk0), rfl, bel.frame _, fun h => by cases h⟩

theorem laid_met (os : Os) : laidMet Tryd.prog Rows.fnFieldsWordsRow.laid ((laidWorld os).forCall (fun _ _ => 0) ⟨#[], #[.string ByteArray.empty], []⟩).memory :=
  laidMet_of_run' 8 (by kernel_rfl) (by kernel_rfl)
theorem reads (os : Os) {H : Type} (enc : TypeId × Value → H) : ∃ places, DataW.whole enc Tryd.prog ((laidWorld os).forCall (fun _ _ => 0) ⟨#[], #[.string ByteArray.empty], []⟩).memory Tryd.f9.params.toList Rows.fnFieldsWordsSpec.vars false (#[.string ByteArray.empty] : Array Value).toList 8 = some ([.lit (.string [])], [], places) :=
  ⟨[], by kernel_rfl⟩
set_option maxRecDepth 100000 in
theorem lifted (os : Os) (started : os.Started) (H : Type) (enc : TypeId × Value → H) (F : Stop.Interp) :
    ReturnsInHanded {} Tryd.checked os 9 .any ((OpenSpec.ofChange Rows.fnFieldsWordsSpec).preRow enc Tryd.prog Tryd.f9 Rows.fnFieldsWordsRow.domain false Rows.fnFieldsWordsRow.laid) (((OpenSpec.ofChange Rows.fnFieldsWordsSpec).at F).post enc Tryd.prog Tryd.f9 false true false false) := by
  obtain ⟨places, hx⟩ := reads os enc
  refine returnsInHanded_of_row (C := Tryd.checked) (s := OpenSpec.ofChange Rows.fnFieldsWordsSpec) own started (by kernel_rfl) Tryd.func9
    (witness_row_atRef (enc := enc) (C := Tryd.checked) false (laidWorld os) #[.string ByteArray.empty] rfl (by kernel_rfl) (by kernel_rfl) (by kernel_rfl)
      (OpenSpec.preRow_of_cond 8 hx (by kernel_rfl) (fun k hk => by cases hk) (by kernel_rfl) (laid_met os))) ?_
  intro W base args ds gs before hval0 hW _ hcond hsz0 hL _ _
  exact contract H enc W base args ds gs before hval0 hW hsz0 hL

theorem said : Rows.FnFieldsWordsSaid :=
  OpenClaim.holds_of_cond 9 Tryd.f9 rfl rfl rfl rfl rfl rfl rfl ⟨rfl, rfl, rfl, rfl, rfl⟩ rfl rfl rfl rfl rfl (by kernel_rfl) Tryd.func9 (by kernel_rfl)
    (of_decide_eq_true (by kernel_rfl)) (by unfold Func.isWrapper; first | (rw [if_pos (by decide +kernel)]; kernel_rfl) | (rw [if_neg (by decide +kernel)]; exact ⟨rfl, rfl⟩))
    (fun os started H enc _ F => by rw [OpenClaim.pre_eq_preRow]; exact lifted os started H enc F)

theorem plain (f : FuncId) (fn : Func) (hf : Tryd.pinned.checked.prog.funcNamed Rows.fnFieldsWordsRow.func = some f) (hfn : Tryd.pinned.checked.prog.funcs[f]? = some fn) :
    false = Tryd.pinned.checked.prog.looks [] ∧ ∀ (j : Nat) t, fn.params[j]? = some t → Tryd.pinned.checked.prog.wantsStandIn t = false := by
  obtain rfl : f = 9 := Option.some.inj ((show Tryd.prog.funcNamed Rows.fnFieldsWordsRow.func = some 9 by kernel_rfl).symm.trans hf) |>.symm
  obtain rfl : fn = Tryd.f9 := (Option.some.inj (Tryd.func9.symm.trans hfn)).symm
  refine ⟨by kernel_rfl, fun j t ht => ?_⟩
  rw [Tryd.params9] at ht
  have hm := Array.mem_of_getElem? ht
  simp only [List.mem_toArray, List.mem_cons, List.mem_nil_iff, or_false] at hm
  subst hm
  exact (show Tryd.prog.wantsStandIn 9 = false by kernel_rfl)

theorem proved : Rows.FnFieldsWordsCardSaid :=
  Claim7.holds_tied_plain_at .later [] _ _ _ _ said (fun _ h => by cases h) (by kernel_rfl) (fun _ h => by cases h) fnFieldsWords_row_tie rfl ⟨rfl, rfl⟩ (by kernel_rfl) rfl plain (by kernel_rfl)
#print axioms proved
end Go.Proofs.YteiginpjahmppaaDoor.fnFieldsWords
