/-
  For every text and byte the law FnIndexByteEnds returns true and changes nothing. No condition.
-/
import Derived.Test.YtmfjmikiebijgaaRows
import Derived.Test.YtmfjmikiebijgaaSpecB
import Derived.Test.YtmfjmikiebijgaaImplA
import Derived.Test.YtmfjmikiebijgaaPlainB
import Derived.Laws.IdiomStrings
import Derived.WalkKit
import Derived.ProofKit
import Derived.OpenShut
import Derived.ShutString
import Derived.SizedLaws
namespace Go.Proofs.Ytmfjmikiebijgaa.fnIndexByteEnds
open Go.ChangeShapes Go.WideShapes Go.ChangeAt Go.RowKit
open Go.ChangeMaps (open_string shut_string)
set_option linter.unusedVariables false      -- a walk need not use every 'w<i>' (that an integer argument fits its kind)

theorem own : ownKnob Try.prog.godebug = none := by kernel_rfl

theorem byte_of (n : Int) (h0 : 0 ≤ n) (h1 : n ≤ 255) : ∃ c : UInt8, n = (c.toNat : Int) := ⟨n.toNat.toUInt8, by simp; omega⟩
theorem idx_take (s : List UInt8) (c : UInt8) (i : Nat) (h : Lib.indexByte s c = i) : Lib.indexByte (s.take i) c = -1 := by
  have h1 := Lib.indexByte_some h
  rw [firstByte_index]; apply Lib.index_none; intro j hj
  cases ho : Lib.occAt (s.take i) [c] j
  · rfl
  · have := Lib.occAt_head rfl ho
    have hlt : j < i := by
      by_cases e : j < i
      · exact e
      · rw [List.getElem?_eq_none (by simp; omega)] at this; exact absurd this (by simp)
    rw [List.getElem?_take_of_lt hlt] at this
    exact absurd this (h1.2 j hlt)
theorem ends_some (s : ByteArray) (c : UInt8) (i : Nat) (h : Lib.indexByte s.data.toList c = i) :
    ∃ k : Nat, Lib.lastIndexByte s (c.toNat : Int) = k ∧ i ≤ k ∧ ∃ (hk : k < s.size) (hi : i < s.size), s[i] = c ∧ s[k] = c ∧ Lib.lastIndexByte (s.extract (k + 1) s.size) (c.toNat : Int) = -1 := by
  obtain ⟨h1, h2⟩ := Lib.indexByte_some h
  obtain ⟨hi, hv⟩ := List.getElem?_eq_some_iff.1 h1
  rw [len_data] at hi
  rcases last_spec s.data.toList [c] with ⟨e, hn⟩ | ⟨k, hk, e, hc, hn⟩
  · have := hn i (by rw [len_data]; omega)
    rw [occ_one s c i hi, beq_eq_false_iff_ne] at this
    exact absurd hv this
  · rw [len_data] at hk; simp at hk
    have hk' : k < s.size := by omega
    refine ⟨k, by rw [lastByte_last, e], ?_, hk', hi, hv, by rw [occ_one s c k hk', beq_iff_eq] at hc; exact hc, ?_⟩
    · by_cases hlt : k < i
      · exfalso
        have := h2 k hlt
        rw [occ_one s c k hk', beq_iff_eq] at hc
        exact this (List.getElem?_eq_some_iff.2 ⟨by rw [len_data]; omega, hc⟩)
      · omega
    · rw [lastByte_last]; apply last_none; intro j hj
      rw [Lib.extract_data, List.take_of_length_le (by simp)] at hj ⊢
      rw [occ_drop]
      simp only [List.length_drop, len_data] at hj
      exact hn _ (by omega) (by rw [len_data]; omega)
theorem ends_none (s : ByteArray) (c : UInt8) (h : Lib.indexByte s.data.toList c = -1) : Lib.lastIndexByte s (c.toNat : Int) = -1 := by
  rw [lastByte_last]; apply last_none; intro j hj
  cases ho : Lib.occAt s.data.toList [c] j
  · rfl
  · exact absurd (Lib.occAt_head rfl ho) (Lib.indexByte_none h j)
set_option maxHeartbeats 1000000 in
theorem walk (a0 : ByteArray) (a1 : Int) (w0 : a0.size ≤ 140737488351232) (w1 : (Lit.int .u8 a1).wf = true) (w : World) :
    Calls Try.prog 11 #[.string a0, .int .u8 a1] w fun e w' => e = .returned (.bool true) ∧ Grown w w' := by
  obtain ⟨b0, b1⟩ := bounds_u8 w1
  obtain ⟨c, rfl⟩ := byte_of a1 b0 b1
  have kc : (convert 29 9 (Value.slice (some ⟨w.heap.size, 0, none⟩) 1 1)).run Try.prog (w.alloc (.cells #[.int .u8 (c.toNat : Int)] 5)) = .ok (.string ⟨#[c]⟩) (w.alloc (.cells #[.int .u8 (c.toNat : Int)] 5)) :=
    run_convert_bytes_back _ _ _ _ _ 1 [c] Try.underlying29 Try.underlying5 Try.underlying9 (fun j hj => by
      obtain rfl : j = 0 := by simpa using hj
      exact World.cell?_alloc_mark _ _ _ _ _)
  have hcc : ((c.toNat : Int)).toNat.toUInt8 = c := by simp
  have HC := Lib.hid hcc; clear hcc
  rcases Int.lt_or_le (Lib.indexByte a0.data.toList c) 0 with hneg | hpos
  · have hi : Lib.indexByte a0.data.toList c = -1 := by have := Lib.indexByte_ge a0.data.toList c; omega
    have hk := ends_none a0 c hi
    have hl : Lib.lastIndex a0.data.toList [c] = -1 := by rw [← lastByte_last, hk]
    have hx : Lib.index a0.data.toList [c] = -1 := by rw [← firstByte_index, hi]
    have HI := Lib.hid hi; have HK := Lib.hid hk; have HL := Lib.hid hl; have HX := Lib.hid hx
    clear hi hk hl hx hneg
    go_enter Try.func11, Try.ntmps11
    go_wp2_with fail
    refine (impl_IndexByte _ _ _).mono ?_; rintro e w' ⟨rfl, rfl⟩; rw [HC.out, HI.out]
    go_wp2_with fail
    refine (impl_LastIndexByte _ _ (by omega) _).mono ?_; rintro e w' ⟨rfl, rfl⟩; rw [HK.out]
    go_wp2_with fail
    refine (impl_LastIndex _ _ (by omega) _).mono ?_; rintro e w' ⟨rfl, rfl⟩; rw [HL.out]
    go_wp2_with fail
    refine (spec_Contains _ _ (by omega) (by show (1 : Nat) ≤ 2305843009213693952; omega) _).mono ?_; rintro e w' ⟨rfl, rfl⟩; rw [HX.out]
    go_wp2_with fail
    go_ret
    exact ⟨rfl, (Grown.refl _).alloc _ _⟩
  · obtain ⟨i, hi⟩ := Int.eq_ofNat_of_zero_le hpos
    obtain ⟨k, hk, hik, hks, his, hci, hck, hb⟩ := ends_some a0 c i hi
    have hl : Lib.lastIndex a0.data.toList [c] = k := by rw [← lastByte_last, hk]
    have hf : Lib.indexByte (a0.extract 0 i).data.toList c = -1 := by
      rw [Lib.extract_data]; simpa using idx_take _ c i hi
    have HI := Lib.hid hi; have HK := Lib.hid hk; have HL := Lib.hid hl; have HF := Lib.hid hf; have HB := Lib.hid hb
    have ti : ((a0[i].toNat : Int) == (c.toNat : Int)) = true := by rw [hci]; simp
    have tk : ((a0[k].toNat : Int) == (c.toNat : Int)) = true := by rw [hck]; simp
    clear hi hk hl hf hb hci hck hpos
    go_enter Try.func11, Try.ntmps11
    go_wp2_with fail
    refine (impl_IndexByte _ _ _).mono ?_; rintro e w' ⟨rfl, rfl⟩; rw [HC.out, HI.out]
    go_wp2_with fail
    refine (impl_LastIndexByte _ _ (by omega) _).mono ?_; rintro e w' ⟨rfl, rfl⟩; rw [HK.out]
    go_wp2_with fail
    refine (impl_LastIndex _ _ (by omega) _).mono ?_; rintro e w' ⟨rfl, rfl⟩; rw [HL.out]
    go_wp2_with fail
    refine (impl_IndexByte _ _ _).mono ?_; rintro e w' ⟨rfl, rfl⟩; rw [HC.out, HF.out]
    go_wp2_with fail
    refine (impl_LastIndexByte _ _ (by simp; omega) _).mono ?_; rintro e w' ⟨rfl, rfl⟩; rw [HB.out]
    go_wp2_with fail
    go_ret
    exact ⟨rfl, (Grown.refl _).alloc _ _⟩

set_option maxRecDepth 100000 in
theorem lifted (os : Os) (started : os.Started) (H : Type) (enc : TypeId × Value → H) :
    ReturnsInHanded {} Try.checked os 11 .any (Rows.fnIndexByteEndsSpec.pre6 enc Try.prog Try.f11 Rows.fnIndexByteEndsRow.domain false) (Rows.fnIndexByteEndsSpec.post enc Try.prog Try.f11 false true false false) := by
  refine returnsInHanded_of_change_sized (C := Try.checked) own started (by kernel_rfl) Try.func11
    (ChangeSpec.witness6 (enc := enc) (C := Try.checked) false ⟨#[], #[.string ByteArray.empty, .int .u8 0], []⟩ 8 (by kernel_rfl) (by kernel_rfl) (by kernel_rfl) (by kernel_rfl)) ?_
  intro W base args ds gs before hval0 hW hcnd hsz0 _
  have hval : ∀ (j : Nat) t v, Try.f11.params[j]? = some t → args[j]? = some v → Value.okWide Try.prog W .any base t v := hval0
  have hsz : (DataW.weightsEach Try.prog (Try.f11.params.toList ++ Rows.fnIndexByteEndsSpec.plain.varTypes Try.prog) (ds ++ gs)).all (· ≤ reachBytes) = true := hsz0
  clear hsz0
  have hW' := hW
  obtain ⟨p, q, hA0, hV, rfl, hfz, hnd⟩ := hW
  have hA : DataW.TrodAll enc Try.prog W 0 (fun _ => true) true Try.f11.params.toList args.toList ds p := hA0
  rw [Try.params11] at hA hval hsz
  obtain ⟨v0, vs0, d0, ds0, p0, q0, hargs, rfl, rfl, h0, r0⟩ := trodAll_cons hA
  obtain ⟨v1, vs1, d1, ds1, p1, q1, rfl, rfl, rfl, h1, r1⟩ := trodAll_cons r0
  obtain ⟨rfl, rfl, rfl⟩ := trodAll_nil r1
  obtain rfl : args = #[v0, v1] := by cases args; simp_all
  obtain ⟨rfl, rfl⟩ := trodVars_none hV
  obtain ⟨a0, rfl, rfl, rfl, w0⟩ := open_string Try.underlying9 (hval 0 9 v0 rfl rfl) h0
  obtain ⟨a1, rfl, rfl, rfl, w1⟩ := open_int Try.underlying5 (hval 1 5 v1 rfl rfl) h1
  clear hA0 hval0
  simp only [List.append_nil] at hW'
  have r0 : a0.size ≤ 140737488351232 := by have := sized_string hsz (j := 0) (t := 9) rfl rfl; simpa [reachBytes] using this
  refine (walk a0 a1 r0 w1 W).mono fun e W' ⟨he, hg⟩ => ?_
  subst he
  exact ⟨_, rfl, post_of_same (pa := []) (pv := []) hW' (fun _ _ _ => (trodAll_cons_mk (shut_bool Try.underlying4 _) trodAll_mk0)) (fun sp _ => (trodAll_cons_mk (shut_string Try.underlying9 w0) (trodAll_cons_mk (shut_int Try.underlying5 w1) trodAll_mk0))) (fun _ _ => rfl) rfl
    (hg.frame _) hg.2.1 (ok_one (by kernel_rfl) rfl (okWide_bool_mk Try.underlying4 _))⟩

theorem over : Rows.fnIndexByteEndsRow.holds Try.pinned (OpenSpec.ofChange Rows.fnIndexByteEndsSpec) :=
  OpenClaim.holds_of_wide 11 Try.f11 rfl rfl rfl rfl rfl rfl rfl ⟨rfl, rfl, rfl, rfl, rfl⟩ rfl rfl rfl rfl rfl (by kernel_rfl) Try.func11 (by kernel_rfl)
    (of_decide_eq_true (by kernel_rfl)) (by unfold Func.isWrapper; first | (rw [if_pos (by decide +kernel)]; kernel_rfl) | (rw [if_neg (by decide +kernel)]; exact ⟨rfl, rfl⟩))
    (fun os started H enc _ => lifted os started H enc)

theorem proved : Rows.FnIndexByteEndsSaid :=
  over
#print axioms proved
end Go.Proofs.Ytmfjmikiebijgaa.fnIndexByteEnds
