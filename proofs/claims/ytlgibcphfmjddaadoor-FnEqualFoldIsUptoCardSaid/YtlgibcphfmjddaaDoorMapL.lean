/-
  Contracts of strings.Builder's WriteRune (grown), and of strings.Map where it is handed a method value of a table. Conditions: the tables of unicode/utf8 lie; the text is of at most 2^40 bytes.
-/
import Derived.Test.YtlgibcphfmjddaaDoorValid
import Derived.Lib.OthersKept
import Derived.Lib.TrimU
import Derived.Lib.MapLaws
import Derived.Deep.LoopGhost
namespace Go.Proofs.YtlgibcphfmjddaaDoor
open Go.RowKit
set_option linter.unusedVariables false

theorem own_len {w : World} {B e n : Nat} {v : Value} {xs : List Value} (h : w.ownsRow B e 1 v n xs) : ∃ ao cap, v = .slice ao n cap ∧ n ≤ cap := by
  rcases h.2 with ⟨hv, h0⟩ | ⟨g, cap, cur, hv, _, _, hc, _⟩
  · exact ⟨none, 0, by rw [hv, h0], by omega⟩
  · exact ⟨_, _, hv, hc⟩
theorem Bld.room {B b : Nat} {l : List UInt8} {w : World} (h : Bld B b l w) (hl : l ≠ []) : ∃ p n cap, w.cell? ⟨b, 1, none⟩ = some (.slice p n cap) ∧ 0 < cap := by
  obtain ⟨hB, v, hbk, hown, hne⟩ := h
  obtain ⟨ao, cap, rfl, hc⟩ := own_len hown
  have c1 : w.cell? ⟨b, 1, none⟩ = some (.slice ao (Lib.byteCells l).length cap) := by rw [Lib.cell_of_heap hbk]; rfl
  refine ⟨_, _, cap, c1, ?_⟩
  have : (Lib.byteCells l).length = l.length := by simp [Lib.byteCells]
  have := List.length_pos_iff.2 hl
  omega
set_option maxRecDepth 100000 in
set_option maxHeartbeats 2000000 in
theorem bld_WriteRune (B b : Nat) (l : List UInt8) (r : Int) (w : World) (h : Bld B b l w) (hr0 : -2147483648 ≤ r) (hr1 : r ≤ 2147483647) (hlen : l.length + 4 ≤ 140737488355328) (hBw : B ≤ w.heap.size) :
    Calls Tryd.prog 54 #[.pointer (some ⟨b, 0, none⟩), .int .i32 r] w fun e w' => (∃ v, e = .returned v) ∧ Bld B b (l ++ Lib.encodeRune r) w' ∧ Below B w w' ∧ Iters w w' := by
  obtain ⟨hB, v, hbk, hown, hne⟩ := h
  have hbl : (Lib.byteCells l).length = l.length := by simp [Lib.byteCells]
  obtain ⟨ao, cap, rfl, hcap⟩ := own_len hown
  rw [hbl] at hown hbk hne hcap
  have HO := Lib.hid hown; have HBK := Lib.hid hbk; have HNE := Lib.hid hne
  have hrl := Lib.encodeRuneZ_length r
  have hrc : (Lib.runeCells r).length = (Lib.encodeRune r).length := Lib.runeCells_length r
  have hrz : (Lib.encodeRune r).length ≤ 4 := by unfold Lib.encodeRune; rw [List.length_map]; exact hrl.2
  obtain ⟨m, hm⟩ : ∃ m, (Lib.runeCells r).length = m := ⟨_, rfl⟩
  have hm4 : m ≤ 4 := by omega
  have HM := Lib.hid hm
  clear hrl hrc hrz hm hbl
  go_enter Tryd.func54, Tryd.ntmps54
  go_wp2_with (go_at_call 67; refine (bld_copyCheck b _ _ HBK.out).mono ?_)
  rintro e w1 ⟨rfl, rfl⟩
  have c0 : w.cell? ⟨b, 0, none⟩ = some (.pointer (some ⟨b, 0, none⟩)) := by rw [Lib.cell_of_heap HBK.out]; rfl
  have c1 : w.cell? ⟨b, 1, none⟩ = some (.slice ao l.length cap) := by rw [Lib.cell_of_heap HBK.out]; rfl
  have hlt : b < w.heap.size := (Array.getElem?_eq_some_iff.1 HBK.out).1
  clear hbk hown hne
  go_wp2_with fail
  refine (Tryd.utf8_AppendRune_plain B _ l.length _ r hr0 hr1 _ HO.out (by omega) hBw).mono ?_; rintro e w2 ⟨v', rfl, hown', o, hgrow⟩
  rw [HM.out] at hown'
  have hb2 : w2.heap[b]? = some (.cells #[.pointer (some ⟨b, 0, none⟩), .slice ao l.length cap] 76 (0, 0)) := by
    rw [hgrow.block b (by simp; omega) (fun e => HNE.out e.symm), Lib.alloc_old w _ b hlt]
    exact HBK.out
  have d0 : w2.cell? ⟨b, 0, none⟩ = some (.pointer (some ⟨b, 0, none⟩)) := by rw [Lib.cell_of_heap hb2]; rfl
  have d1 : w2.cell? ⟨b, 1, none⟩ = some (.slice ao l.length cap) := by rw [Lib.cell_of_heap hb2]; rfl
  have f1 : w2.frozen? ⟨b, 1, none⟩ = false := Lib.frozen_of_heap hb2 1
  obtain ⟨ao', cap', hv', hc'⟩ := own_len hown'
  subst hv'
  have HG := Lib.hid hgrow; have HB2 := Lib.hid hb2; have HO2 := Lib.hid hown'
  clear hgrow hb2 hown'
  go_wp2_with fail
  go_ret2
  refine ⟨⟨_, rfl⟩, ?_, ?_, iters_put HBK.out HO.out HG.out⟩
  · have hl2 : Lib.byteCells (l ++ Lib.encodeRune r) = Lib.byteCells l ++ Lib.runeCells r := by rw [← Lib.byteCells_encodeRune]; simp [Lib.byteCells]
    unfold Bld; rw [hl2]
    have hl3 : (Lib.byteCells l ++ Lib.runeCells r).length = l.length + m := by rw [List.length_append, HM.out]; simp [Lib.byteCells]
    exact Lib.BuilderAt.put (T := 76) (e := 5) hB HB2.out (bs' := Lib.byteCells l ++ Lib.runeCells r) (by rw [hl3]; exact HO2.out) (by decide)
  · exact (((Below.refl B w).alloc hBw _).grown HG.out (by simp; omega) (fun k hk => (HO.out.lt k hk).1)).setCell (p := ⟨b, 1, none⟩) hB _
end Go.Proofs.YtlgibcphfmjddaaDoor
