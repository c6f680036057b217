/-
  The contract of laws.back: the text, its last byte first. Condition: its length is at most 2^47.
-/
import Derived.Test.YtmfjmikiebijgaaMem
namespace Go.Proofs.Ytmfjmikiebijgaa
open Go.RowKit
set_option linter.unusedVariables false

theorem Try.info8 : (Try.prog.info? 5).map (fun i => (i.zero, i.size, i.bytes)) = some (some (.int .u8 0), 1, 1) := by kernel_rfl

/-- the last k bytes, the last one first -/
def backTo (l : List UInt8) (k : Nat) : List UInt8 := l.reverse.take k
theorem backTo_len (l : List UInt8) (k : Nat) (h : k ≤ l.length) : (backTo l k).length = k := by simp [backTo]; omega
theorem backTo_succ (s : ByteArray) (j : Nat) (h : j < s.size) : backTo s.data.toList (s.size - j) = backTo s.data.toList (s.size - (j + 1)) ++ [s[j]] := by
  unfold backTo
  have hl : s.data.toList.length = s.size := len_data s
  rw [show s.size - j = s.size - (j + 1) + 1 by omega]
  rw [List.take_succ_eq_append_getElem (by rw [List.length_reverse]; omega), List.getElem_reverse]
  congr 2
  have e : s.data.toList.length - 1 - (s.size - (j + 1)) = j := by omega
  simp only [e]
  rfl
theorem backTo_all (s : ByteArray) : backTo s.data.toList (s.size - 0) = s.data.toList.reverse := by
  unfold backTo; rw [Nat.sub_zero]; exact List.take_of_length_le (by rw [List.length_reverse, len_data]; exact Nat.le_refl _)
theorem own_next {w1 : World} {base e : Nat} {v : Value} {s : ByteArray} {j n : Nat} (hj : j < s.size) (hn : n = s.size - (j + 1))
    (h : w1.ownsRow base e 1 v (n + 1) ((backTo s.data.toList n).map bcell ++ [.int .u8 (s[j].toNat : Int)])) :
    w1.ownsRow base e 1 v (s.size - j) ((backTo s.data.toList (s.size - j)).map bcell) := by
  subst hn
  rw [backTo_succ s j hj, List.map_append]
  rw [show s.size - j = s.size - (j + 1) + 1 by omega]
  exact h

set_option maxHeartbeats 1000000 in
theorem back_any (s : ByteArray) (hs : s.size ≤ 140737488351232) (w : World) :
    Calls Try.prog 16 #[.string s] w fun e w' => e = .returned (.string ⟨s.data.toList.reverse.toArray⟩) ∧ Below w.heap.size w w' := by
  obtain ⟨i0, hi, hz0, hz1, hz2⟩ := info_parts Try.info8
  have kc := fun (w : World) (s : ByteArray) => run_bytes_of_string (P := Try.prog) w 9 29 5 s Try.underlying9 Try.underlying29 Try.underlying5
  go_enter Try.func16, Try.ntmps16
  go_wp2_with (first | (at_make; refine wpList_make_own _ rfl _ _ 29 rfl (w.heap.size + 1) 5 i0 (.int .u8 0) 1 Try.underlying29 hi hz0 hz1 .i64 .i64 _ s.size rfl rfl rfl (by rw [hz2]; omega) (by unfold maxLen; omega) (by simp) ?_; intro w0 hown0 hgrow0))
  have hb0 : Hid (Below w.heap.size w w0) := ((Below.refl _ w).drew.alloc (Nat.le_refl _) _).trans (grown_below hgrow0 (by simp) (fun k h => by cases h))
  have hc0 : Hid (∀ j (h : j < s.size), w0.cell? ⟨w.heap.size, j, none⟩ = some (.int .u8 (s[j].toNat : Int))) := fun j h => by
    rw [World.cell?_of_block (hgrow0.block w.heap.size (by simp) (by simp))]
    exact (World.cell?_alloc_mark w.drew _ _ _ j).trans (bytesRow_at s _ j h)
  have hs0 : w.heap.size + 1 ≤ w0.heap.size := by have := hgrow0.size; simp at this; omega
  have hown0' : w0.ownsRow (w.heap.size + 1) 5 1 (.slice (some ⟨w.heap.size + 1, 0, none⟩) 0 s.size) 0 [] := by simpa using hown0
  clear kc hgrow0 hown0
  go_loopw [4, 5] (fun v i wr => ∃ m : Nat, m ≤ s.size ∧ i = .int .i64 ((m : Int) - 1) ∧ Hid (wr.ownsRow (w.heap.size + 1) 5 1 v (s.size - m) ((backTo s.data.toList (s.size - m)).map bcell)) ∧ Hid (Below w.heap.size w wr) ∧
      Hid (∀ j (h : j < s.size), wr.cell? ⟨w.heap.size, j, none⟩ = some (.int .u8 (s[j].toNat : Int))) ∧ w.heap.size + 1 ≤ wr.heap.size) (fun _ i _ => (intOf i + 1).toNat)
  case atStart => exact ⟨s.size, Nat.le_refl _, by congr 1, by rw [Nat.sub_self]; exact hown0', hb0, hc0, hs0⟩
  case round =>
    clear hown0' hb0 hc0 hs0
    obtain ⟨m, hm, rfl, HO, HB, HC, hsz⟩ := hrel
    cases m with
    | zero =>
      have kc := conv_own (P := Try.prog) wr 29 9 5 Try.underlying29 Try.underlying5 Try.underlying9 HO.out
      go_wp2
      go_ret
      exact ⟨ret_str (by rw [← backTo_all s, Nat.sub_zero]), HB.out⟩
    | succ j =>
      rw [show ((j + 1 : Nat) : Int) - 1 = (j : Int) by omega]
      have hj : j < s.size := by omega
      have hcell := HC.out j hj
      go_wp2_with (at_builtin; refine wpList_append_own _ rfl _ _ 29 rfl (w.heap.size + 1) 5 i0 (.int .u8 0) 1 1 Try.underlying29 hi hz0 hz1 hz2 rfl (by decide) _ _ _ rfl (HO.out.alloc _) ⟨wr.heap.size, 0, none⟩ 1 1 [.int .u8 (s[j].toNat : Int)] rfl rfl (cell_one_new _ _ _) (by simp [Value.oneCell']) (by unfold maxLen; omega) (by omega) (by simp; omega) ?_; intro v' w1 hown1 hgrow1 _)
      have hob : ∀ k, v'.ownBlock = some k → w.heap.size + 1 ≤ k := fun k h => (hown1.lt k h).1
      have hvb : ∀ k, u4.ownBlock = some k → w.heap.size + 1 ≤ k := fun k h => (HO.out.lt k h).1
      have ho2 := Lib.hid (own_next hj rfl hown1)
      have hb2 : Hid (Below w.heap.size w w1) := HB.out.trans (((Below.refl _ wr).alloc (by omega) _).trans (grown_below hgrow1 (by simp; omega) (fun k h => by have := hvb k h; omega)))
      have hc2 : Hid (∀ j (h : j < s.size), w1.cell? ⟨w.heap.size, j, none⟩ = some (.int .u8 (s[j].toNat : Int))) := fun j h => by
        rw [World.cell?_of_block (hgrow1.block w.heap.size (by simp; omega) (fun e => by have := hvb _ e.symm; omega)), World.cell?_alloc_past _ _ _ (by show w.heap.size < wr.heap.size; omega)]
        exact HC.out j h
      have hs2 : w.heap.size + 1 ≤ w1.heap.size := by have := hgrow1.size; simp at this; omega
      clear hown1 hgrow1 hob hvb hcell
      go_wp2
      go_roundw
      case rel => exact ⟨j, by omega, by go_num, ho2, hb2, hc2, hs2⟩
      case measure => simp [intOf]
end Go.Proofs.Ytmfjmikiebijgaa
