/-
  For every text the law FnLinesGlue returns true and changes nothing: lines, one behind the other, are the text; each but the last one ends with its only line feed; none is empty. Condition: what comes in is of bulk at most 1048576 (the second form).
-/
import Derived.Test.YtmfjmikiebijgaaRows
import Derived.Test.YtmfjmikiebijgaaLineIt
import Derived.Test.YtmfjmikiebijgaaGlue
import Derived.Test.YtmfjmikiebijgaaImplIB
import Derived.WalkKit
import Derived.ProofKit
import Derived.OpenShut
import Derived.ShutString
import Derived.ChangeOld
import Derived.Below
import Derived.SizedLaws
import Derived.Lib.SmallJoins
import Derived.Deep.CondSized
namespace Go.Proofs.Ytmfjmikiebijgaa.fnLinesGlueUpto
open Go.ChangeShapes Go.WideShapes Go.ChangeAt Go.RowKit Go.Joins
open Go.ChangeMaps (open_string shut_string)
set_option linter.unusedVariables false

theorem own : ownKnob Try.prog.godebug = none := by kernel_rfl
theorem laidOut : laidOutB Try.prog = true := by kernel_rfl
theorem lin_flat : ∀ (l cur : List UInt8), (linC cur l).flatten = cur ++ l
  | [], cur => by by_cases h : cur = [] <;> simp [linC, h]
  | c :: l, cur => by
    simp only [linC]
    split
    · simp [lin_flat l []]
    · rw [lin_flat l]; simp
theorem lin_parts : ∀ (l cur : List UInt8), (∀ b ∈ cur, b ≠ 10) → ∀ j (hj : j < (linC cur l).length), (linC cur l)[j] ≠ [] ∧ ((∃ q, (linC cur l)[j] = q ++ [10] ∧ ∀ b ∈ q, b ≠ 10) ∨ ((∀ b ∈ (linC cur l)[j], b ≠ 10) ∧ j + 1 = (linC cur l).length))
  | [], cur, hc, j, hj => by
    by_cases h : cur = []
    · subst h; simp [linC] at hj
    · have e : linC cur [] = [cur] := by simp [linC, h]
      simp only [e] at hj ⊢
      obtain rfl : j = 0 := by simpa using hj
      exact ⟨h, .inr ⟨hc, rfl⟩⟩
  | c :: l, cur, hc, j, hj => by
    by_cases h : c = 10
    · subst h
      have e : linC cur (10 :: l) = (cur ++ [10]) :: linC [] l := by simp [linC]
      simp only [e] at hj ⊢
      cases j with
      | zero => exact ⟨by simp, .inl ⟨cur, rfl, hc⟩⟩
      | succ j =>
        have ih := lin_parts l [] (by simp) j (by simpa using hj)
        simp only [List.getElem_cons_succ, List.length_cons]
        refine ⟨ih.1, ?_⟩
        rcases ih.2 with h | ⟨h1, h2⟩
        · exact .inl h
        · exact .inr ⟨h1, by omega⟩
    · have e : linC cur (c :: l) = linC (cur ++ [c]) l := by simp [linC, h]
      simp only [e] at hj ⊢
      exact lin_parts l (cur ++ [c]) (fun b hb => by rcases List.mem_append.1 hb with hb | hb; exact hc b hb; simp at hb; rw [hb]; exact h) j hj
theorem index_none : ∀ (l : List UInt8), (∀ b ∈ l, b ≠ 10) → Lib.indexByte l 10 = -1
  | [], _ => rfl
  | b :: l, h => by
    have hb : (b == 10) = false := by simpa using h b (by simp)
    simp only [Lib.indexByte, hb, index_none l (fun b hb => h b (by simp [hb]))]
    rfl
theorem index_at : ∀ (q : List UInt8), (∀ b ∈ q, b ≠ 10) → Lib.indexByte (q ++ [10]) 10 = (q.length : Int)
  | [], _ => rfl
  | b :: q, h => by
    have hb : (b == 10) = false := by simpa using h b (by simp)
    have ih := index_at q (fun b hb => h b (by simp [hb]))
    have hn : ((q.length : Int) == -1) = false := by simp
    simp only [List.cons_append, Lib.indexByte, hb, ih, hn, List.length_cons]
    simp
/-- what the law asks of a line -/
theorem line_ok (s : ByteArray) (j : Nat) (hj : j < (linesB s).length) : (linesB s)[j].size ≠ 0 ∧ (linesB s)[j].size ≤ s.size ∧ ((Lib.indexByte (linesB s)[j].data.toList 10 = ((linesB s)[j].size : Int) - 1) ∨ (Lib.indexByte (linesB s)[j].data.toList 10 = -1 ∧ j + 1 = (linesB s).length)) := by
  have hl : (linesB s).length = (linC [] s.data.toList).length := by simp [linesB]
  have hj' : j < (linC [] s.data.toList).length := by omega
  have he : (linesB s)[j] = ofL (linC [] s.data.toList)[j] := by simp [linesB]
  have hd : (linesB s)[j].data.toList = (linC [] s.data.toList)[j] := by rw [he]; simp [ofL]
  have hsz : (linesB s)[j].size = (linC [] s.data.toList)[j].length := by rw [← len_data, hd]
  have hle : (linC [] s.data.toList)[j].length ≤ s.size := by
    have h1 := lin_flat s.data.toList []
    have h2 := congrArg List.length h1
    rw [List.nil_append, len_data] at h2
    obtain ⟨A, B, e⟩ := List.append_of_mem (List.getElem_mem hj')
    rw [e, List.flatten_append, List.flatten_cons, List.length_append, List.length_append] at h2
    omega
  obtain ⟨h1, h2⟩ := lin_parts s.data.toList [] (by simp) j hj'
  rw [hd, hsz]
  refine ⟨fun h => h1 (List.length_eq_zero_iff.1 h), hle, ?_⟩
  rcases h2 with ⟨q, e, hq⟩ | ⟨h, e⟩
  · left; rw [e, index_at q hq]; simp
  · right; exact ⟨index_none _ h, by omega⟩
theorem glue_lines (s : ByteArray) : glueL (linesB s) = s.data.toList := by
  have := lin_flat s.data.toList []
  rw [List.nil_append] at this
  unfold glueL linesB
  rw [List.flatMap_map]
  simpa [ofL, List.flatMap_id'] using this
set_option maxHeartbeats 1000000 in
theorem walk (a0 : ByteArray) (w : World) (w0 : a0.size ≤ 1048576) :
    Calls Try.prog 13 #[.string a0] w fun e w' => e = .returned (.bool true) ∧ Below w.heap.size w w' := by
  have hLn := linesB_len a0
  have HOK := Lib.hid (line_ok a0)
  have HG := Lib.hid (glue_lines a0)
  have CI := Lib.hid (fun (W : World) => impl_Lines a0 W (by omega))
  have hGl : (glueL (linesB a0)).length ≤ 1048576 := by rw [HG.out, len_data]; exact w0
  generalize linesB a0 = L at *
  go_enter Try.func13, Try.ntmps13
  go_wp2_with fail
  refine (CI.out w).mono ?_; rintro e w1 ⟨g, c, rfl, ho1, hb1⟩
  have O1 := Lib.hid ho1; have B1 := Lib.hid hb1
  clear ho1 hb1
  go_wp2_with fail
  go_loopw [11] (fun vi wx => ∃ k : Nat, k ≤ L.length ∧ vi = .int .i64 (k : Int) ∧ wx = w1) (fun vi _ => L.length - (intOf vi).toNat)
  case atStart => exact ⟨0, Nat.zero_le _, rfl, rfl⟩
  case round =>
    obtain ⟨k, hk, rfl, rfl⟩ := hrel
    by_cases hlt : k < L.length
    · have hc : wr.cell? ⟨g, k, none⟩ = some (.string L[k]) := by
        have := O1.out.cellAt k (by omega); rw [this]; simp [strs, hlt]
      obtain ⟨hz, hzs, hok⟩ := HOK.out k hlt
      generalize hF : L[k] = F at *
      have he : F.toList.isEmpty = false := by
        rw [Lib.toList_data]; rw [← len_data] at hz; cases h : F.data.toList
        · rw [h] at hz; simp at hz
        · rfl
      have hgl : g < wr.heap.size := (O1.out.lt _ rfl).2
      clear hF
      rcases hok with hn | ⟨hn, hl⟩
      · have HN := Lib.hid hn
        have h0 : decide (0 ≤ (F.size : Int) - 1) = true := by simp; omega
        have h1 : decide ((F.size : Int) - 1 < 0) = false := by simp; omega
        have h2 : (1 : Int) ≤ F.size := by omega
        clear hn hz
        go_wp2_with fail
        refine (impl_IndexByte F 10 _).mono ?_; rintro e w4 ⟨rfl, rfl⟩; rw [show ((10 : Int).toNat.toUInt8) = 10 from rfl, HN.out]
        go_wp2_with fail
        exact ⟨⟨k + 1, by omega, rfl, by trivial⟩, by simp [intOf]; omega⟩
      · have HN := Lib.hid hn
        have h2 : decide ((k : Int) < (L.length : Int) - 1) = false := by simp; omega
        have h3 : ¬ (k : Int) < (L.length : Int) - 1 := by omega
        clear hn hz hl
        go_wp2_with fail
        refine (impl_IndexByte F 10 _).mono ?_; rintro e w4 ⟨rfl, rfl⟩; rw [show ((10 : Int).toNat.toUInt8) = 10 from rfl, HN.out]
        go_wp2_with fail
        exact ⟨⟨k + 1, by omega, rfl, by trivial⟩, by simp [intOf]; omega⟩
    · obtain rfl : k = L.length := by omega
      have HLi := Lib.hid (show Lies wr wr.heap.size 1 (some ⟨g, 0, none⟩) L.length (strs L) from Lies.of_own O1.out)
      go_wp2_with fail
      refine (laws_glued _ c L _ HLi.out (by omega) (by omega)).mono ?_; rintro e w4 ⟨rfl, hb4⟩
      have hS : (⟨(glueL L).toArray⟩ : ByteArray) = a0 := by rw [HG.out]
      rw [hS]
      go_wp2_with fail
      go_ret
      exact ⟨rfl, B1.out.trans (hb4.mono B1.out.size)⟩

theorem contract (H : Type) (enc : TypeId × Value → H) (W : World) (base : Nat) (args : Array Value) (ds gs : List (DataW H)) (before : List MemPlace)
    (hval0 : ∀ (j : Nat) t v, Try.f13.params[j]? = some t → args[j]? = some v → Value.okWide Try.prog W .any base t v)
    (hW : DataW.Whole enc Try.prog Try.f13.params.toList Rows.fnLinesGlueSpec.vars false W args.toList ds gs before)
    (hsz0 : (DataW.weightsEach Try.prog (Try.f13.params.toList ++ Rows.fnLinesGlueSpec.plain.varTypes Try.prog) (ds ++ gs)).all (· ≤ reachBytes) = true) (hk : Rows.uptoSmall H (ds ++ gs) = true) :
    Calls Try.prog 13 args W fun e W' => ∃ v, e = .returned v ∧ Rows.fnLinesGlueSpec.post enc Try.prog Try.f13 false true false false W args v W' := by
  have hval := hval0
  have hsz := hsz0
  clear hval0 hsz0
  have hW' := hW
  obtain ⟨p, q, hA0, hV, rfl, hfz, hnd⟩ := hW
  have hA : DataW.TrodAll enc Try.prog W 0 (fun _ => true) true Try.f13.params.toList args.toList ds p := hA0
  rw [Try.params13] at hA hval hsz
  obtain ⟨v0, vs0, d0, ds0, p0, q0, hargs, rfl, rfl, h0, r0x⟩ := trodAll_cons hA
  obtain ⟨rfl, rfl, rfl⟩ := trodAll_nil r0x
  obtain rfl : args = #[v0] := by cases args; simp_all
  obtain ⟨rfl, rfl⟩ := trodVars_none hV
  have hbulk := of_decide_eq_true hk
  obtain ⟨a0, rfl, rfl, rfl, x0⟩ := open_string Try.underlying9 (hval 0 9 v0 rfl rfl) h0
  clear hA0
  have w0 : a0.size ≤ 1048576 := by
    simp only [Rows.uptoBulkAll, Rows.uptoBulk, List.append_nil] at hbulk
    have e : a0.data.toList.length = a0.size := by rw [Array.length_toList]; rfl
    omega
  refine (walk a0 W w0).mono fun e W' ⟨he, bel⟩ => ?_
  subst he
  exact ⟨_, rfl, _, _, _, [], _, [], hW', trodAll_mk1 (shut_bool Try.underlying4 _), (trodAll_cons_mk (shut_string Try.underlying9 x0) trodAll_mk0), rfl, bel.frame _, fun h => by cases h⟩

set_option maxRecDepth 100000 in
theorem lifted (os : Os) (started : os.Started) (H : Type) (enc : TypeId × Value → H) (F : Stop.Interp) :
    ReturnsInHanded {} Try.checked os 13 .any ((Rows.OpenSpec.upto Rows.fnLinesGlueSpec).pre6 enc Try.prog Try.f13 Rows.fnLinesGlueUptoRow.domain false) (((Rows.OpenSpec.upto Rows.fnLinesGlueSpec).at F).post enc Try.prog Try.f13 false true false false) := by
  refine returnsInHanded_of_cond_sized (C := Try.checked) (s := Rows.OpenSpec.upto Rows.fnLinesGlueSpec) (k := Rows.uptoSmall) rfl own started (by kernel_rfl) Try.func13
    (OpenSpec.witness (enc := enc) (C := Try.checked) (s := Rows.OpenSpec.upto Rows.fnLinesGlueSpec) (k := Rows.uptoSmall) rfl false ⟨#[], #[.string ByteArray.empty], []⟩ 8 (by kernel_rfl) (by kernel_rfl) (by kernel_rfl)
      (x := ([.lit (.string [])], [], [])) (by kernel_rfl) rfl (by kernel_rfl)) ?_
  intro W base args ds gs before hval0 hW _ hk hsz0 _
  exact contract H enc W base args ds gs before hval0 hW hsz0 hk

theorem proved : Rows.FnLinesGlueUptoSaid :=
  OpenClaim.holds_of_cond 13 Try.f13 rfl rfl rfl rfl rfl rfl rfl ⟨rfl, rfl, rfl, rfl, rfl⟩ rfl rfl rfl rfl rfl (by kernel_rfl) Try.func13 (by kernel_rfl)
    (of_decide_eq_true (by kernel_rfl)) (by unfold Func.isWrapper; first | (rw [if_pos (by decide +kernel)]; kernel_rfl) | (rw [if_neg (by decide +kernel)]; exact ⟨rfl, rfl⟩))
    (fun os started H enc _ F => lifted os started H enc F)
#print axioms proved
end Go.Proofs.Ytmfjmikiebijgaa.fnLinesGlueUpto
