/-
  Contracts of the reference's points, Points, and of laws.table where both lists are nil. Condition: the text is of at most 2^40 bytes.
-/
import Derived.Test.YtlgibcphfmjddaaDoorMapL
import Derived.Test.YtlgibcphfmjddaaDoorMapS
namespace Go.Proofs.YtlgibcphfmjddaaDoor
open Go.RowKit
set_option linter.unusedVariables false

theorem Tryd.info32 : (Tryd.prog.info? 21).map (fun i => (i.zero, i.size, i.bytes)) = some (some (.int .i32 0), 1, 4) := by kernel_rfl
/-- the code points of a text, as cells -/
def rvals (ps : List Pc) : List Value := ps.map fun p => Value.int .i32 (p.r : Int)
/-- a new list of code points -/
def NewRunes (ps : List Pc) (w : World) (e : Ending) (w' : World) : Prop :=
  ∃ g c, e = .returned (.slice (some ⟨g, 0, none⟩) ps.length c) ∧ w'.ownsRow w.heap.size 21 1 (.slice (some ⟨g, 0, none⟩) ps.length c) ps.length (rvals ps) ∧ Below w.heap.size w w'
set_option maxRecDepth 100000 in
set_option maxHeartbeats 2000000 in
theorem spec_points (s : ByteArray) (w : World) (hs : s.size ≤ 1099511627776) : Calls Tryd.prog 37 #[.string s] w (NewRunes (pcs 0 s.data.toList) w) := by
  obtain ⟨i0, hi, hz0, hz1, hz2⟩ := info_parts Tryd.info32
  have HB0 := Lib.hid (show Below w.heap.size w (w.alloc (.cells #[] 21)) from (Below.refl _ w).alloc (Nat.le_refl _) _)
  go_enter Tryd.func37, Tryd.ntmps37
  go_wp2_with fail
  refine (spec_piecesOwn s hs _).mono ?_; rintro e w1 ⟨pa, pc, rfl, hpl, hb1⟩
  have hpn := pcs_len s.data.toList.length 0 s.data.toList (Nat.le_refl _)
  rw [len_data] at hpn
  generalize hps : pcs 0 s.data.toList = ps at *
  have HPS := Lib.hid hps
  have HP1 := Lib.hid (own_base hpl (show w.heap.size ≤ _ by simp))
  have hown : w1.ownsRow w.heap.size 21 1 (.slice (some ⟨w.heap.size, 0, none⟩) 0 0) 0 [] := by
    have h0 := World.ownsRow_lit (base := w.heap.size) (e := 21) (size := 1) w #[] 0 (Nat.le_refl _) (Nat.zero_le _) rfl
    have h1 := own_later h0 hb1
    simpa using h1
  have B1 := Lib.hid (HB0.out.trans (hb1.mono (by simp)))
  have HO1 := Lib.hid hown
  clear hpl hps hown hb1
  go_wp2_with fail
  go_loopw [3, 5] (fun v vi wr => ∃ (k : Nat), k ≤ ps.length ∧ vi = .int .i64 (k : Int) ∧ Hid (wr.ownsRow w.heap.size 21 1 v k (rvals (ps.take k))) ∧ Hid (v ≠ .slice none 0 0) ∧ Hid (wr.ownsRow w.heap.size 70 4 (.slice pa ps.length pc) ps.length (pcells ps)) ∧ Hid (Below w.heap.size w wr)) (fun _ vi _ => ps.length - (intOf vi).toNat)
  case atStart => exact ⟨0, Nat.zero_le _, rfl, HO1.out, (fun h => by cases h), HP1.out, B1.out⟩
  case round =>
    clear HO1 B1 HP1 HB0
    obtain ⟨k, hk, rfl, HO, HV, HP, HB⟩ := hrel
    have hsz := HB.out.size
    by_cases hlt : k < ps.length
    · obtain ⟨g, o, hpa, hg, c0, c1, c2, c3⟩ := pcc (Lies.of_own HP.out) k hlt
      subst hpa
      have HTK := Lib.hid (show rvals (ps.take (k + 1)) = rvals (ps.take k) ++ [.int .i32 (ps[k].r : Int)] by unfold rvals; rw [List.take_succ_eq_append_getElem hlt, List.map_append]; rfl)
      clear c0 c1 c3
      generalize hpk : ps[k].r = q at *
      clear hpk
      go_wp2_with (at_builtin; refine wpList_append_own _ rfl _ _ 33 rfl w.heap.size 21 i0 (.int .i32 0) 1 4 Tryd.underlying33 hi hz0 hz1 hz2 rfl (by decide) u3 k (rvals (ps.take k)) rfl (HO.out.alloc _) ⟨wr.heap.size, 0, none⟩ 1 1 [.int .i32 (q : Int)] rfl rfl (cells_new _ [.int .i32 (q : Int)] _) (by simp [Value.oneCell']) (by unfold maxLen; omega) (by omega) (by simp; omega) ?_; intro v' w3 hown3 hgrow3 hnil3)
      have HV3 := Lib.hid (show v' ≠ .slice none 0 0 from fun h => HV.out (hnil3.1 h).1)
      have HO3 := Lib.hid (show w3.ownsRow w.heap.size 21 1 v' (k + 1) (rvals (ps.take (k + 1))) by rw [HTK.out]; exact hown3)
      have HB3 := Lib.hid ((HB.out.alloc hsz _).grown hgrow3 (by simp; omega) (fun q e => (HO.out.lt q e).1))
      have HP3 := Lib.hid ((HP.out.alloc (.cells #[.int .i32 (q : Int)] 21)).kept hgrow3 (own_apart (HP.out.alloc (.cells #[.int .i32 (q : Int)] 21)) (HO.out.alloc (.cells #[.int .i32 (q : Int)] 21)) (by decide)))
      clear hown3 hgrow3 hnil3
      go_wp2_with fail
      exact ⟨⟨k + 1, by omega, by go_num, HO3.out, HV3.out, HP3.out, HB3.out⟩, by simp [intOf]; omega⟩
    · obtain rfl : k = ps.length := by omega
      have hO := HO.out
      rw [List.take_length] at hO
      obtain ⟨g, c, hv⟩ : ∃ g c, u3 = .slice (some ⟨g, 0, none⟩) ps.length c := by
        rcases hO.2 with ⟨hv, _⟩ | ⟨g, cap, cur, hv, _⟩
        · exact absurd hv HV.out
        · exact ⟨g, cap, hv⟩
      subst hv
      have HO2 := Lib.hid hO
      clear hO
      go_wp2
      go_ret
      exact ⟨g, c, rfl, HO2.out, HB.out⟩
set_option maxHeartbeats 1000000 in
theorem spec_Points (s : ByteArray) (w : World) (hs : s.size ≤ 1099511627776) : Calls Tryd.prog 20 #[.string s] w (NewRunes (pcs 0 s.data.toList) w) := by
  have HJ := Lib.hid (spec_points s w hs)
  go_enter Tryd.func20, Tryd.ntmps20
  go_wp2_with fail
  refine HJ.out.mono ?_; rintro e w1 ⟨g, c, rfl, ho1, hb1⟩
  go_wp2_with fail
  go_ret
  exact ⟨g, c, rfl, ho1, hb1⟩
set_option maxRecDepth 100000 in
set_option maxHeartbeats 1000000 in
theorem laws_table_nil (w : World) : Calls Tryd.prog 19 #[.slice none 0 0, .slice none 0 0] w fun e w' => e = .returned (.agg #[.slice none 0 0]) ∧ Below w.heap.size w w' := by
  go_enter Tryd.func19, Tryd.ntmps19
  go_wp2
  refine wp_loop_rounds 1 ?_; rw [rounds_succ]
  go_wp2
  exact bodyPost_ret (v := .agg #[.slice none 0 0]) (by simp [results, Tryd.results19, go_sem]) rfl ⟨rfl, ((Below.refl _ w).alloc (Nat.le_refl _) _).alloc (by simp) _⟩
end Go.Proofs.YtlgibcphfmjddaaDoor
