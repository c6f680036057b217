/-
  For every text and byte of a word the law FnFieldsMore returns true and changes nothing: a word behind a blank is one field more. Condition: what comes in is of bulk at most 1048576 (the second form).
-/
import Derived.Test.YteiginpjahmppaaDoorCards
import Derived.Test.YteiginpjahmppaaDoorTie
import Derived.Test.YteiginpjahmppaaDoorTabs
import Derived.Test.YteiginpjahmppaaDoorSpaceF
import Derived.Test.YteiginpjahmppaaDoorWords
import Derived.Test.YteiginpjahmppaaDoorSame
import Derived.WalkKit
import Derived.ProofKit
import Derived.OpenShut
import Derived.ShutString
import Derived.ChangeOld
import Derived.Below
import Derived.SizedLaws
import Derived.Lib.SmallJoins
import Derived.Deep.CondSized
import Derived.Deep.DeepHandedRow
import Derived.Deep.DeepWitnessRowRef
namespace Go.Proofs.YteiginpjahmppaaDoor.fnFieldsMoreUpto
open Go.ChangeShapes Go.WideShapes Go.ChangeAt Go.RowKit Go.Joins
open Go.ChangeMaps (open_string shut_string)
set_option linter.unusedVariables false

theorem own : ownKnob Tryd.prog.godebug = none := by kernel_rfl
theorem laidOut : laidOutB Tryd.prog = true := by kernel_rfl
theorem byte_of (n : Int) (h0 : 0 ≤ n) (h1 : n ≤ 255) : ∃ c : UInt8, n = (c.toNat : Int) := ⟨n.toNat.toUInt8, by simp; omega⟩
theorem more_fields (s : ByteArray) (b : UInt8) (h1 : 32 < b.toNat) (h2 : b.toNat < 127) : fieldsP Lib.isSpaceR (ofB (s.data.toList ++ [32, b])) = fieldsP Lib.isSpaceR s ++ [ofB [b]] := by
  rw [fields_eq, fields_eq, ofB_data]
  have e1 : chs (s.data.toList ++ [32, b]) = chs s.data.toList ++ chs [32, b] := chs_app [b] 32 (by decide) s.data.toList
  have e2 : chs [32, b] = [(32, [32]), (b.toNat, [b])] := by rw [chs_ascii 32 [b] (by decide), chs_ascii b [] (by omega), chs_nil]; rfl
  rw [e1, e2]
  have hb : Lib.isSpaceR b.toNat = false := by
    unfold Lib.isSpaceR
    simp only [Bool.or_eq_false_iff, Bool.and_eq_false_iff, decide_eq_false_iff_not, beq_eq_false_iff_ne]
    omega
  have key : ∀ (cs cur : List Ch), runsC Lib.isSpaceR cur (cs ++ [(32, [32]), (b.toNat, [b])]) = runsC Lib.isSpaceR cur cs ++ [[(b.toNat, [b])]] := by
    intro cs
    induction cs with
    | nil =>
      intro cur
      have h32 : Lib.isSpaceR 32 = true := by decide
      simp only [List.nil_append, runsC, h32, if_true, hb, Bool.false_eq_true, if_false]
      simp
    | cons c cs ih =>
      intro cur
      simp only [List.cons_append, runsC]
      split
      · rw [ih, List.append_assoc]
      · rw [ih]
  rw [key, List.map_append]
  rfl
set_option maxHeartbeats 1000000 in
theorem walk (a0 : ByteArray) (a1 : Int) (w : World) (w0 : a0.size ≤ 1048576) (w1 : (Lit.int .u8 a1).wf = true) (hS : Spaces w) :
    Calls Tryd.prog 5 #[.string a0, .int .u8 a1] w fun e w' => e = .returned (.bool true) ∧ Below w.heap.size w w' := by
  have HS := Lib.hid hS; clear hS
  obtain ⟨i0, hi, hz0, hz1, hz2⟩ := info_parts Tryd.infoStr
  obtain ⟨b0, b1⟩ := bounds_u8 w1
  obtain ⟨ch, rfl⟩ := byte_of a1 b0 b1
  by_cases h1 : (ch.toNat : Int) ≤ 32
  · go_enter Tryd.func5, Tryd.ntmps5
    go_wp2_with fail
    go_ret
    exact ⟨rfl, Below.refl _ _⟩
  · by_cases h2 : 127 ≤ (ch.toNat : Int)
    · go_enter Tryd.func5, Tryd.ntmps5
      go_wp2_with fail
      go_ret
      exact ⟨rfl, Below.refl _ _⟩
    · have kc : (convert 35 9 (Value.slice (some ⟨w.heap.size, 0, none⟩) 1 1)).run Tryd.prog (w.alloc (.cells #[.int .u8 (ch.toNat : Int)] 5)) = .ok (.string ⟨#[ch]⟩) (w.alloc (.cells #[.int .u8 (ch.toNat : Int)] 5)) :=
        run_convert_bytes_back _ _ _ _ _ 1 [ch] Tryd.underlying35 Tryd.underlying5 Tryd.underlying9 (fun j hj => by
          obtain rfl : j = 0 := by simpa using hj
          exact World.cell?_alloc_mark _ _ _ _ _)
      have HM := Lib.hid (more_fields a0 ch (by omega) (by omega))
      have hLn := fieldsP_len Lib.isSpaceR a0
      have CF := Lib.hid (fun (W : World) (hb : Below w.heap.size w W) => impl_Fields a0 W (by omega) (HS.out.below hb))
      have CF2 := Lib.hid (fun (W : World) (hb : Below w.heap.size w W) => impl_Fields (ofB (a0.data.toList ++ [32, ch])) W (by rw [ofB_size]; simp; omega) (HS.out.below hb))
      rw [HM.out, show ofB (a0.data.toList ++ [32, ch]) = a0 ++ ⟨#[32]⟩ ++ ⟨#[ch]⟩ from ba_eq (by rw [ofB_data]; simp), show ofB [ch] = ⟨#[ch]⟩ from rfl] at CF2
      generalize fieldsP Lib.isSpaceR a0 = L at *
      have hb0 := Lib.hid ((Below.refl w.heap.size w).alloc (Nat.le_refl _) (.cells #[.int .u8 (ch.toNat : Int)] 5))
      go_enter Tryd.func5, Tryd.ntmps5
      go_wp2_with fail
      clear kc
      refine (CF2.out _ hb0.out).mono ?_; rintro e w1 ⟨g1, c1, rfl, ho1, hb1⟩
      have B1 := Lib.hid (hb0.out.trans (hb1.mono hb0.out.size)); have M1 := Lib.hid (show Lies w1 w1.heap.size 1 (some ⟨g1, 0, none⟩) (L ++ [(⟨#[ch]⟩ : ByteArray)]).length (strs (L ++ [(⟨#[ch]⟩ : ByteArray)])) from Lies.of_own ho1)
      clear hb1 ho1
      have hnn : (L ++ [(⟨#[ch]⟩ : ByteArray)]).length = L.length + 1 := by simp
      have HNN := Lib.hid hnn
      rw [hnn]
      clear hnn
      go_wp2_with fail
      refine (CF.out _ B1.out).mono ?_; rintro e w2 ⟨g2, c2, rfl, ho2, hb2⟩
      have B2 := Lib.hid (B1.out.trans (hb2.mono B1.out.size)); have M2 := Lib.hid (M1.out.later hb2)
      have HLn := Lib.hid (show Lies w2 w2.heap.size 1 (some ⟨g2, 0, none⟩) L.length (strs L) from Lies.of_own ho2).news
      have hs2 := B2.out.size
      clear hb2 ho2 M1
      go_wp2_with (first | (at_builtin; refine wpList_append_own _ rfl _ _ 26 rfl w2.heap.size 9 i0 (.string ⟨#[]⟩) 1 16 Tryd.underlying26 hi hz0 hz1 hz2 rfl (by decide) (.slice none 0 0) 0 [] rfl (World.ownsRow_nil _ _ _ _) ⟨g2, 0, none⟩ L.length c2 (strs L) rfl (by simp [strs]) HLn.out (by intro u hu; obtain ⟨x, _, rfl⟩ := List.mem_map.1 hu; rfl) (by unfold maxLen; omega) (by omega) (Nat.le_refl _) ?_; intro v' w3 hown3 hgrow3 hnil; clear hnil; rw [Nat.zero_add, List.nil_append] at hown3; obtain ⟨a3, c3, rfl⟩ := own_slice hown3; have HO3 := Lib.hid hown3; have hb3 : Below w2.heap.size w2 w3 := grown_below hgrow3 (Nat.le_refl _) (fun k h => by cases h); have B3 := Lib.hid (B2.out.trans (hb3.mono B2.out.size)); have M3 := Lib.hid (M2.out.below hb3); have hs3 := hb3.size; clear hown3 hgrow3 hb3) | (at_builtin; refine wpList_append_own _ rfl _ _ 26 rfl w2.heap.size 9 i0 (.string ⟨#[]⟩) 1 16 Tryd.underlying26 hi hz0 hz1 hz2 rfl (by decide) _ _ _ rfl (HO3.out.alloc _) ⟨w3.heap.size, 0, none⟩ 1 1 [.string ⟨#[ch]⟩] rfl rfl (cell_one_new _ _ _) (str_one _) (by unfold maxLen; omega) (by omega) (by simp; omega) ?_; intro v4 w4 hown4 hgrow4 hnil4; clear hnil4; obtain ⟨a4, c4, rfl⟩ := own_slice hown4; have hb4 : Below w2.heap.size (w3.alloc (.cells #[.string ⟨#[ch]⟩] 9)) w4 := grown_below hgrow4 (by simp; omega) (fun q h => (HO3.out.lt q h).1); have hb34 := (((Below.refl w2.heap.size w3).alloc hs3 (.cells #[.string ⟨#[ch]⟩] 9))).trans hb4; have B4 := Lib.hid (B3.out.trans (hb34.mono hs2)); have M4 := Lib.hid ((M3.out.below hb34).up (Nat.le_trans hs3 hb34.size)); have O4 := Lib.hid (show Lies w4 w4.heap.size 1 a4 (L ++ [(⟨#[ch]⟩ : ByteArray)]).length (strs (L ++ [(⟨#[ch]⟩ : ByteArray)])) from Lies.of_own (by have := hown4; simpa [strs] using this)); clear hown4 hgrow4 hb4 hb34))
      have CSm := Lib.hid (laws_same (some ⟨g1, 0, none⟩) a4 c1 c4 (L ++ [(⟨#[ch]⟩ : ByteArray)]) w4 M4.out O4.out (by simp; omega))
      rw [HNN.out] at CSm
      refine CSm.out.mono ?_; rintro e w5 ⟨rfl, hd5⟩
      have B5 := Lib.hid (B4.out.trans ((hd5.below w4.heap.size).mono B4.out.size)); clear hd5
      go_wp2_with fail
      go_ret
      exact ⟨rfl, B5.out⟩

theorem contract (H : Type) (enc : TypeId × Value → H) (W : World) (base : Nat) (args : Array Value) (ds gs : List (DataW H)) (before : List MemPlace)
    (hval0 : ∀ (j : Nat) t v, Tryd.f5.params[j]? = some t → args[j]? = some v → Value.okWide Tryd.prog W .any base t v)
    (hW : DataW.Whole enc Tryd.prog Tryd.f5.params.toList Rows.fnFieldsMoreSpec.vars false W args.toList ds gs before)
    (hsz0 : (DataW.weightsEach Tryd.prog (Tryd.f5.params.toList ++ Rows.fnFieldsMoreSpec.plain.varTypes Tryd.prog) (ds ++ gs)).all (· ≤ reachBytes) = true) (hk : Rows.uptoSmall H (ds ++ gs) = true) (hL : laidMetH Tryd.prog Rows.fnFieldsMoreUptoRow.laid W) :
    Calls Tryd.prog 5 args W fun e W' => ∃ v, e = .returned v ∧ Rows.fnFieldsMoreSpec.post enc Tryd.prog Tryd.f5 false true false false W args v W' := by
  have hval := hval0
  have hsz := hsz0
  clear hval0 hsz0
  have hW' := hW
  obtain ⟨p, q, hA0, hV, rfl, hfz, hnd⟩ := hW
  have hA : DataW.TrodAll enc Tryd.prog W 0 (fun _ => true) true Tryd.f5.params.toList args.toList ds p := hA0
  rw [Tryd.params5] at hA hval hsz
  obtain ⟨v0, vs0, d0, ds0, p0, q0, hargs, rfl, rfl, h0, r0x⟩ := trodAll_cons hA
  obtain ⟨v1, vs1, d1, ds1, p1, q1, rfl, rfl, rfl, h1, r1x⟩ := trodAll_cons r0x
  obtain ⟨rfl, rfl, rfl⟩ := trodAll_nil r1x
  obtain rfl : args = #[v0, v1] := by cases args; simp_all
  obtain ⟨rfl, rfl⟩ := trodVars_none hV
  have hbulk := of_decide_eq_true hk
  obtain ⟨a0, rfl, rfl, rfl, x0⟩ := open_string Tryd.underlying9 (hval 0 9 v0 rfl rfl) h0
  obtain ⟨a1, rfl, rfl, rfl, w1⟩ := open_int Tryd.underlying5 (hval 1 5 v1 rfl rfl) h1
  clear hA0
  have w0 : a0.size ≤ 1048576 := by
    simp only [Rows.uptoBulkAll, Rows.uptoBulk, List.append_nil] at hbulk
    have e : a0.data.toList.length = a0.size := by rw [Array.length_toList]; rfl
    omega
  refine (walk a0 a1 W w0 w1 (spaces_of hL (by unfold Rows.fnFieldsMoreUptoRow; simp) (by unfold Rows.fnFieldsMoreUptoRow; simp))).mono fun e W' ⟨he, bel⟩ => ?_
  subst he
  exact ⟨_, rfl, _, _, _, [], _, [], hW', trodAll_mk1 (shut_bool Tryd.underlying4 _), (trodAll_cons_mk (shut_string Tryd.underlying9 x0) (trodAll_cons_mk (shut_int Tryd.underlying5 w1) trodAll_mk0)), rfl, bel.frame _, fun h => by cases h⟩

theorem laid_met (os : Os) : laidMet Tryd.prog Rows.fnFieldsMoreUptoRow.laid ((laidWorld os).forCall (fun _ _ => 0) ⟨#[], #[.string ByteArray.empty, .int .u8 0], []⟩).memory :=
  laidMet_of_run' 8 (by kernel_rfl) (by kernel_rfl)
theorem reads (os : Os) {H : Type} (enc : TypeId × Value → H) : ∃ places, DataW.whole enc Tryd.prog ((laidWorld os).forCall (fun _ _ => 0) ⟨#[], #[.string ByteArray.empty, .int .u8 0], []⟩).memory Tryd.f5.params.toList Rows.fnFieldsMoreSpec.vars false (#[.string ByteArray.empty, .int .u8 0] : Array Value).toList 8 = some ([.lit (.string []), .lit (.int .u8 0)], [], places) :=
  ⟨[], by kernel_rfl⟩
set_option maxRecDepth 100000 in
theorem lifted (os : Os) (started : os.Started) (H : Type) (enc : TypeId × Value → H) (F : Stop.Interp) :
    ReturnsInHanded {} Tryd.checked os 5 .any ((Rows.OpenSpec.upto Rows.fnFieldsMoreSpec).preRow enc Tryd.prog Tryd.f5 Rows.fnFieldsMoreUptoRow.domain false Rows.fnFieldsMoreUptoRow.laid) (((Rows.OpenSpec.upto Rows.fnFieldsMoreSpec).at F).post enc Tryd.prog Tryd.f5 false true false false) := by
  obtain ⟨places, hx⟩ := reads os enc
  refine returnsInHanded_of_row (C := Tryd.checked) (s := Rows.OpenSpec.upto Rows.fnFieldsMoreSpec) own started (by kernel_rfl) Tryd.func5
    (witness_row_atRef (enc := enc) (C := Tryd.checked) false (laidWorld os) #[.string ByteArray.empty, .int .u8 0] rfl (by kernel_rfl) (by kernel_rfl) (by kernel_rfl)
      (OpenSpec.preRow_of_cond 8 hx (by kernel_rfl) (fun k hk => by cases hk; kernel_rfl) (by kernel_rfl) (laid_met os))) ?_
  intro W base args ds gs before hval0 hW _ hcond hsz0 hL _ _
  exact contract H enc W base args ds gs before hval0 hW hsz0 (hcond _ rfl) hL

theorem said : Rows.FnFieldsMoreUptoSaid :=
  OpenClaim.holds_of_cond 5 Tryd.f5 rfl rfl rfl rfl rfl rfl rfl ⟨rfl, rfl, rfl, rfl, rfl⟩ rfl rfl rfl rfl rfl (by kernel_rfl) Tryd.func5 (by kernel_rfl)
    (of_decide_eq_true (by kernel_rfl)) (by unfold Func.isWrapper; first | (rw [if_pos (by decide +kernel)]; kernel_rfl) | (rw [if_neg (by decide +kernel)]; exact ⟨rfl, rfl⟩))
    (fun os started H enc _ F => by rw [OpenClaim.pre_eq_preRow]; exact lifted os started H enc F)

theorem plain (f : FuncId) (fn : Func) (hf : Tryd.pinned.checked.prog.funcNamed Rows.fnFieldsMoreUptoRow.func = some f) (hfn : Tryd.pinned.checked.prog.funcs[f]? = some fn) :
    false = Tryd.pinned.checked.prog.looks [] ∧ ∀ (j : Nat) t, fn.params[j]? = some t → Tryd.pinned.checked.prog.wantsStandIn t = false := by
  obtain rfl : f = 5 := Option.some.inj ((show Tryd.prog.funcNamed Rows.fnFieldsMoreUptoRow.func = some 5 by kernel_rfl).symm.trans hf) |>.symm
  obtain rfl : fn = Tryd.f5 := (Option.some.inj (Tryd.func5.symm.trans hfn)).symm
  refine ⟨by kernel_rfl, fun j t ht => ?_⟩
  rw [Tryd.params5] at ht
  have hm := Array.mem_of_getElem? ht
  simp only [List.mem_toArray, List.mem_cons, List.mem_nil_iff, or_false] at hm
  rcases hm with rfl | rfl
  · exact (show Tryd.prog.wantsStandIn 9 = false by kernel_rfl)
  · exact (show Tryd.prog.wantsStandIn 5 = false by kernel_rfl)

theorem proved : Rows.FnFieldsMoreUptoCardSaid :=
  Claim7.holds_tied_plain_at .later [] _ _ _ _ said (fun _ h => by cases h) (by kernel_rfl) (fun _ h => by cases h) fnFieldsMoreUpto_row_tie rfl ⟨rfl, rfl⟩ (by kernel_rfl) rfl plain (by kernel_rfl)
#print axioms proved
end Go.Proofs.YteiginpjahmppaaDoor.fnFieldsMoreUpto
