/-
  For every text, list of runes and flag the law FnFieldsFuncParts returns true and changes nothing. Condition: what comes in is of bulk at most 1048576 (the second form).
-/
import Derived.Test.YtehjbmijbgonkaaRows
import Derived.Test.YtehjbmijbgonkaaFieldsI
import Derived.Test.YtehjbmijbgonkaaRuns2
import Derived.Test.YtehjbmijbgonkaaCuts
import Derived.Test.YtehjbmijbgonkaaSpecB
import Derived.WalkKit
import Derived.ProofKit
import Derived.OpenShut
import Derived.ShutString
import Derived.ChangeOld
import Derived.Below
import Derived.SizedLaws
import Derived.Lib.SmallJoins
import Derived.Deep.CondSized
namespace Go.Proofs.Ytehjbmijbgonkaa.fnFieldsFuncPartsUpto
open Go.ChangeShapes Go.WideShapes Go.ChangeAt Go.RowKit Go.Joins
open Go.ChangeMaps (open_string shut_string)
set_option linter.unusedVariables false

theorem own : ownKnob Try.prog.godebug = none := by kernel_rfl
theorem laidOut : laidOutB Try.prog = true := by kernel_rfl
theorem bulk_len (k : IntKind) {H : Type} (l : List Int) : l.length ≤ Rows.uptoBulkAll (lits (H := H) k l) := by
  induction l with
  | nil => simp [lits, Rows.uptoBulkAll]
  | cons x r ih => simp only [lits, List.map_cons, Rows.uptoBulkAll, Rows.uptoBulk, List.length_cons] at ih ⊢; omega
theorem has_part (s : ByteArray) (a b : Nat) (h1 : a ≤ b) (h2 : b ≤ s.size) : 0 ≤ Lib.index s.data.toList (s.extract a b).data.toList := by
  have hl := len_data s
  have he : (s.extract a b).data.toList = (s.data.toList.drop a).take (b - a) := cut_list s (a, b)
  have hlen : (s.extract a b).data.toList.length = b - a := by rw [he, List.length_take, List.length_drop]; omega
  rcases Lib.index_spec s.data.toList (s.extract a b).data.toList with ⟨_, h⟩ | ⟨i, h, _⟩
  · exfalso
    have := h a (by omega)
    rw [Lib.occAt_iff_take _ _ _ (by omega), hlen, he] at this
    simp at this
  · rw [h]; omega
set_option maxHeartbeats 1000000 in
theorem walk (a0 : ByteArray) (a1 : Option Addr) (len1 cap1 : Nat) (z1 : List Int) (a2 : Bool) (w : World) (w0 : a0.size ≤ 1048576) (w1 : IsRow .i32 w a1 len1 cap1 z1) (r1 : cap1 ≤ 1048576) :
    Calls Try.prog 8 #[.string a0, .slice a1 len1 cap1, .bool a2] w fun e w' => e = .returned (.bool true) ∧ Below w.heap.size w w' := by
  have hl := w1.lies
  have hn1 : a1 = none → len1 = 0 := fun h => by rcases w1 with ⟨_, h, _⟩ | ⟨x, h', _⟩; exact h; rw [h] at h'; cases h'
  have hle := w1.le
  generalize hzz : z1.take len1 = zs at *
  have hl' : Lies w w.heap.size 1 a1 len1 (ints zs) := hl
  clear hl
  have HL := Lib.hid hl'
  have HN := Lib.hid hn1
  have hlen : len1 ≤ 35184372088832 := by omega
  have hzle : zs.length ≤ 70368744177664 := by have := HL.out.1; simp [ints] at this; omega
  clear hl' hn1 hzz w1 hle r1
  have HPF := Lib.hid (part_first (fun x => holdB zs a2 x) a0)
  have HPN := Lib.hid (parts_none (fun x => holdB zs a2 x) a0)
  have hLn := fieldsP_len (fun x => holdB zs a2 x) a0
  generalize hL : fieldsP (fun x => holdB zs a2 x) a0 = L at *
  have HLL := Lib.hid hL
  clear hL
  go_enter Try.func8, Try.ntmps8
  go_wp2_with fail
  refine (laws_test _ _ _ zs _ _ HN.out HL.out hlen).mono ?_; rintro e w1' ⟨a', c', rfl, hl1, hb1⟩
  obtain ⟨wa, hwa⟩ : ∃ wa, w1'.alloc (.cells #[.slice a' zs.length c', .bool a2] 27) = wa := ⟨_, rfl⟩
  have hxa : wa.heap[w1'.heap.size]? = some (.cells #[.slice a' zs.length c', .bool a2] 27) := by rw [← hwa]; exact heap_alloc_new w1' _
  have hba : Below w1'.heap.size w1' wa := by rw [← hwa]; exact (Below.refl _ w1').alloc (Nat.le_refl _) _
  have L1 := Lib.hid (show Lies wa wa.heap.size 1 a' zs.length (ints zs) from hl1.later hba); have B1 := Lib.hid (hb1.trans (hba.mono hb1.size))
  have HXA := Lib.hid hxa
  obtain ⟨y0, y1⟩ := two_cells hxa
  clear hl1 hb1 hba hxa
  go_wp2_with fail
  clear hwa y0 y1
  refine (impl_FieldsFunc _ _ _ zs a2 a0 _ (by omega) L1.out hzle).mono ?_; rw [HLL.out]; rintro e w2' ⟨g, c, rfl, ho2, hb2⟩
  have B2 := Lib.hid (B1.out.trans (hb2.mono B1.out.size)); have O2 := Lib.hid ho2; have L2 := Lib.hid (L1.out.later hb2)
  have X2 := Lib.hid ((hb2.block _ (heap_lt HXA.out)).trans HXA.out)
  clear hb2 ho2 B1 L1 HXA
  go_wp2_with fail
  go_loopw [19] (fun vi wx => ∃ k : Nat, k ≤ L.length ∧ vi = .int .i64 (k : Int) ∧ Hid (OwnStrs wx wa.heap.size g L.length c L) ∧ Hid (Lies wx wx.heap.size 1 a' zs.length (ints zs)) ∧ Hid (wx.heap[w1'.heap.size]? = some (.cells #[.slice a' zs.length c', .bool a2] 27)) ∧ Hid (Below w.heap.size w wx)) (fun vi _ => L.length - (intOf vi).toNat)
  case atStart => exact ⟨0, Nat.zero_le _, rfl, O2.out, L2.out, X2.out, B2.out⟩
  case round =>
    clear O2 L2 X2 B2
    obtain ⟨k, hk, rfl, HO, HLI, HX, HB⟩ := hrel
    by_cases hlt : k < L.length
    · have hc : wr.cell? ⟨g, k, none⟩ = some (.string L[k]) := by
        have := HO.out.cellAt k (by omega); rw [this]; simp [strs, hlt]
      obtain ⟨hf1, hf2, a, b, hab, hbs, hfe⟩ := HPF.out _ (List.getElem_mem hlt)
      have hcon : decide (0 ≤ Lib.index a0.data.toList L[k].data.toList) = true := by rw [hfe]; exact decide_eq_true (has_part a0 a b (by omega) hbs)
      have hfs : L[k].size ≤ 1048576 := by rw [hfe]; simp; omega
      generalize hF : L[k] = F at *
      have he : F.toList.isEmpty = false := by
        rw [Lib.toList_data]; rw [← len_data] at hf1; cases h : F.data.toList
        · rw [h] at hf1; simp at hf1
        · rfl
      have HF2 := Lib.hid hf2; have HC := Lib.hid hcon
      have hgl : g < wr.heap.size := (HO.out.lt _ rfl).2
      clear hfe hab hbs hf1 hf2 hcon
      obtain ⟨y0, y1⟩ := two_cells HX.out
      have hx := heap_lt HX.out
      go_wp2_with fail
      refine (impl_IndexFunc _ _ _ zs a2 F _ HLI.out hzle).mono ?_; rintro e w3 ⟨rfl, hb3⟩; rw [idx_true, HF2.out]
      have B3 := Lib.hid (HB.out.trans (hb3.mono HB.out.size))
      have O3 := Lib.hid (show OwnStrs w3 wa.heap.size g L.length c L from own_later HO.out hb3)
      have L3 := Lib.hid (HLI.out.later hb3)
      have X3 := Lib.hid ((hb3.block _ hx).trans HX.out)
      clear hb3 y0 y1 hc HO HLI HX HB
      go_wp2_with fail
      refine (spec_Contains a0 F (by omega) (by omega) _).mono ?_; rintro e w4 ⟨rfl, rfl⟩; rw [HC.out]
      go_wp2_with fail
      exact ⟨⟨k + 1, by omega, rfl, O3.out, L3.out, X3.out, B3.out⟩, by simp [intOf]; omega⟩
    · obtain rfl : k = L.length := by omega
      have hiff : decide (((L.length : Nat) : Int) = 0) = decide (firstAt (fun x => !holdB zs a2 x) (pcs 0 a0.data.toList) < 0) := by
        rw [decide_eq_decide, ← HPN.out, ← List.length_eq_zero_iff]; omega
      have hcg : firstAt (fun x => holdB zs (!a2) x) (pcs 0 a0.data.toList) = firstAt (fun x => !holdB zs a2 x) (pcs 0 a0.data.toList) := first_congr (fun x => hold_turn zs a2 x) _
      generalize hN : firstAt (fun x => !holdB zs a2 x) (pcs 0 a0.data.toList) = N at *
      have HCG := Lib.hid hcg; have HIF := Lib.hid hiff
      clear hcg hiff
      go_wp2_with fail
      refine (laws_test _ _ _ zs _ _ HN.out (HL.out.later HB.out) hlen).mono ?_; rintro e w3 ⟨a3, c3, rfl, hl3, hb3⟩
      have B3 := Lib.hid (HB.out.trans (hb3.mono HB.out.size)); have L3 := Lib.hid hl3
      clear hb3 hl3
      go_wp2_with fail
      refine (spec_IndexFunc _ _ _ zs _ a0 _ (by omega) L3.out hzle).mono ?_; rintro e w4 ⟨rfl, hb4⟩; rw [HCG.out]
      have B4 := Lib.hid (B3.out.trans (hb4.mono B3.out.size)); clear hb4
      go_wp2_with fail
      go_ret
      refine ⟨ret_bool ?_, B4.out⟩
      rw [beq_iff_eq, ← HIF.out]; rw [Bool.eq_iff_iff, beq_iff_eq, decide_eq_true_iff]

theorem contract (H : Type) (enc : TypeId × Value → H) (W : World) (base : Nat) (args : Array Value) (ds gs : List (DataW H)) (before : List MemPlace)
    (hval0 : ∀ (j : Nat) t v, Try.f8.params[j]? = some t → args[j]? = some v → Value.okWide Try.prog W .any base t v)
    (hW : DataW.Whole enc Try.prog Try.f8.params.toList Rows.fnFieldsFuncPartsSpec.vars false W args.toList ds gs before)
    (hsz0 : (DataW.weightsEach Try.prog (Try.f8.params.toList ++ Rows.fnFieldsFuncPartsSpec.plain.varTypes Try.prog) (ds ++ gs)).all (· ≤ reachBytes) = true) (hk : Rows.uptoSmall H (ds ++ gs) = true) :
    Calls Try.prog 8 args W fun e W' => ∃ v, e = .returned v ∧ Rows.fnFieldsFuncPartsSpec.post enc Try.prog Try.f8 false true false false W args v W' := by
  have hval := hval0
  have hsz := hsz0
  clear hval0 hsz0
  have hW' := hW
  obtain ⟨p, q, hA0, hV, rfl, hfz, hnd⟩ := hW
  have hA : DataW.TrodAll enc Try.prog W 0 (fun _ => true) true Try.f8.params.toList args.toList ds p := hA0
  rw [Try.params8] at hA hval hsz
  obtain ⟨v0, vs0, d0, ds0, p0, q0, hargs, rfl, rfl, h0, r0x⟩ := trodAll_cons hA
  obtain ⟨v1, vs1, d1, ds1, p1, q1, rfl, rfl, rfl, h1, r1x⟩ := trodAll_cons r0x
  obtain ⟨v2, vs2, d2, ds2, p2, q2, rfl, rfl, rfl, h2, r2x⟩ := trodAll_cons r1x
  obtain ⟨rfl, rfl, rfl⟩ := trodAll_nil r2x
  obtain rfl : args = #[v0, v1, v2] := by cases args; simp_all
  obtain ⟨rfl, rfl⟩ := trodVars_none hV
  have hbulk := of_decide_eq_true hk
  obtain ⟨a0, rfl, rfl, rfl, x0⟩ := open_string Try.underlying9 (hval 0 9 v0 rfl rfl) h0
  obtain ⟨a1, len1, cap1, rfl⟩ := okWide_slice Try.underlying22 (hval 1 22 v1 rfl rfl)
  have k1 := h1
  have lt1 : ∀ x ∈ p1, x.block < W.heap.size := by obtain ⟨m, hm⟩ := k1; exact DataW.trod_lt m _ _ _ hm
  obtain ⟨z1, w1, r1⟩ : ∃ zs, IsRow .i32 W a1 len1 cap1 zs ∧ cap1 ≤ 1048576 := by
    obtain ⟨fuel, hf⟩ := h1
    rcases open_ints Try.underlying22 Try.underlying21 (by kernel_rfl) hf with ⟨hcs, _⟩ | ⟨x, l, c, zs, hcs, _, hl, hm, hz, hd, hcell, hwz⟩
    · simp [Value.cells] at hcs
      obtain ⟨rfl, rfl, rfl⟩ := hcs
      exact ⟨[], .inl ⟨rfl, rfl, rfl, rfl⟩, by omega⟩
    · simp [Value.cells] at hcs
      obtain ⟨rfl, rfl, rfl⟩ := hcs
      simp only [if_true] at hz
      simp only [Prod.mk.injEq] at hd
      refine ⟨zs, .inr ⟨_, rfl, hl, hm, hz, hcell, hwz⟩, ?_⟩
      obtain ⟨hd, -⟩ := hd
      subst hd
      simp only [Rows.uptoBulkAll, Rows.uptoBulk, List.append_nil] at hbulk
      have e1 := bulk_len .i32 (H := H) (zs.take len1)
      have e2 := bulk_len .i32 (H := H) (zs.drop len1)
      simp only [List.length_take, List.length_drop] at e1 e2
      omega
  obtain ⟨a2, rfl, rfl, rfl⟩ := open_bool Try.underlying4 (hval 2 4 v2 rfl rfl) h2
  clear hA0
  have w0 : a0.size ≤ 1048576 := by
    simp only [Rows.uptoBulkAll, Rows.uptoBulk, List.append_nil] at hbulk
    have e : a0.data.toList.length = a0.size := by rw [Array.length_toList]; rfl
    omega
  refine (walk a0 a1 len1 cap1 z1 a2 W w0 w1 r1).mono fun e W' ⟨he, bel⟩ => ?_
  subst he
  exact ⟨_, rfl, _, _, _, [], _, [], hW', trodAll_mk1 (shut_bool Try.underlying4 _), (trodAll_cons_mk (shut_string Try.underlying9 x0) (trodAll_cons_mk (Below.trod laidOut (by kernel_rfl) (of_decide_eq_true (by kernel_rfl)) k1 bel lt1) (trodAll_cons_mk (shut_bool Try.underlying4 _) trodAll_mk0))), rfl, bel.frame _, fun h => by cases h⟩

set_option maxRecDepth 100000 in
theorem lifted (os : Os) (started : os.Started) (H : Type) (enc : TypeId × Value → H) (F : Stop.Interp) :
    ReturnsInHanded {} Try.checked os 8 .any ((Rows.OpenSpec.upto Rows.fnFieldsFuncPartsSpec).pre6 enc Try.prog Try.f8 Rows.fnFieldsFuncPartsUptoRow.domain false) (((Rows.OpenSpec.upto Rows.fnFieldsFuncPartsSpec).at F).post enc Try.prog Try.f8 false true false false) := by
  refine returnsInHanded_of_cond_sized (C := Try.checked) (s := Rows.OpenSpec.upto Rows.fnFieldsFuncPartsSpec) (k := Rows.uptoSmall) rfl own started (by kernel_rfl) Try.func8
    (OpenSpec.witness (enc := enc) (C := Try.checked) (s := Rows.OpenSpec.upto Rows.fnFieldsFuncPartsSpec) (k := Rows.uptoSmall) rfl false ⟨#[], #[.string ByteArray.empty, .slice none 0 0, .bool false], []⟩ 8 (by kernel_rfl) (by kernel_rfl) (by kernel_rfl)
      (x := ([.lit (.string []), .nil, .lit (.bool false)], [], [])) (by kernel_rfl) rfl (by kernel_rfl)) ?_
  intro W base args ds gs before hval0 hW _ hk hsz0 _
  exact contract H enc W base args ds gs before hval0 hW hsz0 hk

theorem proved : Rows.FnFieldsFuncPartsUptoSaid :=
  OpenClaim.holds_of_cond 8 Try.f8 rfl rfl rfl rfl rfl rfl rfl ⟨rfl, rfl, rfl, rfl, rfl⟩ rfl rfl rfl rfl rfl (by kernel_rfl) Try.func8 (by kernel_rfl)
    (of_decide_eq_true (by kernel_rfl)) (by unfold Func.isWrapper; first | (rw [if_pos (by decide +kernel)]; kernel_rfl) | (rw [if_neg (by decide +kernel)]; exact ⟨rfl, rfl⟩))
    (fun os started H enc _ F => lifted os started H enc F)
#print axioms proved
end Go.Proofs.Ytehjbmijbgonkaa.fnFieldsFuncPartsUpto
