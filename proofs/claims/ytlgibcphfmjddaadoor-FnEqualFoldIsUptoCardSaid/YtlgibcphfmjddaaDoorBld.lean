/-
  Contracts of strings.Builder's copyCheck, WriteString and WriteByte on a builder that has been grown. Conditions: what it holds, and what is written, is at most 2^47 bytes together.
-/
import Derived.Test.YtlgibcphfmjddaaDoorMem
import Derived.Test.YtlgibcphfmjddaaDoorShelf
import Derived.Lib.Builder
import Derived.Lib.AppendStr
namespace Go.Proofs.YtlgibcphfmjddaaDoor
open Go.RowKit
set_option linter.unusedVariables false

theorem Tryd.info8b : (Tryd.prog.info? 5).map (fun i => (i.zero, i.size, i.bytes)) = some (some (.int .u8 0), 1, 1) := by kernel_rfl
/-- a builder in block b that holds the bytes l -/
def Bld (B b : Nat) (l : List UInt8) (w : World) : Prop := Lib.BuilderAt 76 5 B b (.pointer (some ⟨b, 0, none⟩)) (Lib.byteCells l) w
theorem Bld.kept {B b : Nat} {l : List UInt8} {w w' : World} (h : Bld B b l w) (hb : Below w.heap.size w w') : Bld B b l w' := by
  obtain ⟨hB, v, hbk, hown, hne⟩ := h
  exact ⟨hB, v, (hb.block b (Array.getElem?_eq_some_iff.1 hbk).1).trans hbk, own_later hown hb, hne⟩
/-- iterators over texts stay -/
def Iters (w w' : World) : Prop := ∀ (it : Nat) (s : ByteArray) (p : Nat), w.heap[it]? = some (.stringIter s p) → w'.heap[it]? = some (.stringIter s p)
theorem own_iter {w : World} {B e sz n it : Nat} {v : Value} {xs : List Value} {s : ByteArray} {p : Nat} (h : w.ownsRow B e sz v n xs) (hi : w.heap[it]? = some (.stringIter s p)) : v.ownBlock ≠ some it := by
  rcases h.2 with ⟨hv, _⟩ | ⟨g, cap, cur, hv, _, hg, _⟩
  · rw [hv]; simp [Value.ownBlock]
  · rw [hv]; intro e
    simp only [Value.ownBlock, Option.some.injEq] at e
    subst e; rw [hg] at hi; cases hi
theorem iters_put {w w2 : World} {b e sz n B : Nat} {v u : Value} {xs : List Value} {o : Obj} {cs : Array Value} {T : TypeId} (hbk : w.heap[b]? = some (.cells cs T (0, 0))) (hown : w.ownsRow B e sz v n xs) (hg : (w.alloc o).grownBy w2 v.ownBlock) : Iters w (w2.setCell ⟨b, 1, none⟩ u) := by
  intro it s p hi
  have hib : it ≠ b := by intro e; subst e; rw [hbk] at hi; cases hi
  have hlt : it < w.heap.size := (Array.getElem?_eq_some_iff.1 hi).1
  rw [Below.heap_setCell _ _ _ _ hib, hg.block it (by simp; omega) (fun e => own_iter hown hi e.symm), Lib.alloc_old w _ it hlt]
  exact hi
theorem Tryd.infoBld : (Tryd.prog.info? 76).map (·.size) = some 2 := by kernel_rfl
set_option maxRecDepth 100000 in
set_option maxHeartbeats 1000000 in
theorem bld_copyCheck (b : Nat) (v : Value) (w : World) (hbk : w.heap[b]? = some (.cells #[.pointer (some ⟨b, 0, none⟩), v] 76 (0, 0))) :
    Calls Tryd.prog 67 #[.pointer (some ⟨b, 0, none⟩)] w fun e w' => e = .returned (.tuple #[]) ∧ w = w' := by
  obtain ⟨j, hj, _⟩ := Option.map_eq_some_iff.1 Tryd.infoBld
  have c0 : w.cell? ⟨b, 0, none⟩ = some (.pointer (some ⟨b, 0, none⟩)) := by rw [Lib.cell_of_heap hbk]; rfl
  have hlt := (Array.getElem?_eq_some_iff.1 hbk).1
  clear hbk
  go_enter Tryd.func67, Tryd.ntmps67
  go_wp2
  rw [Lib.run_neq_ptr_same w _ Tryd.underlying74 hj]
  go_wp2
  go_end0
  exact ⟨rfl, rfl⟩
set_option maxRecDepth 100000 in
set_option maxHeartbeats 2000000 in
theorem bld_WriteString (B b : Nat) (l : List UInt8) (s : ByteArray) (w : World) (h : Bld B b l w) (hlen : l.length + s.size ≤ 140737488355328) (hBw : B ≤ w.heap.size) :
    Calls Tryd.prog 53 #[.pointer (some ⟨b, 0, none⟩), .string s] w fun e w' => e = .returned (.tuple #[.int .i64 s.size, .nilIface]) ∧ Bld B b (l ++ s.data.toList) w' ∧ Below B w w' := by
  obtain ⟨i0, hi, hz0, hz1, hz2⟩ := info_parts Tryd.info8b
  obtain ⟨hB, v, hbk, hown, hne⟩ := h
  have hbl : (Lib.byteCells l).length = l.length := by simp [Lib.byteCells]
  go_enter Tryd.func53, Tryd.ntmps53
  go_wp2_with (go_at_call 67; refine (bld_copyCheck b v _ hbk).mono ?_)
  rintro e w1 ⟨rfl, rfl⟩
  have c0 : w.cell? ⟨b, 0, none⟩ = some (.pointer (some ⟨b, 0, none⟩)) := by rw [Lib.cell_of_heap hbk]; rfl
  have c1 : w.cell? ⟨b, 1, none⟩ = some v := by rw [Lib.cell_of_heap hbk]; rfl
  go_wp2_with (at_builtin; refine Lib.wpList_append_own_string _ rfl _ _ 64 9 rfl B 5 i0 Tryd.underlying64 Tryd.underlying9 hi hz0 hz1 hz2 _ _ _ rfl hown s rfl ?c3 ?c4 ?c5 ?_)
  case c3 => unfold maxLen; omega
  case c4 => omega
  case c5 => omega
  intro v' w2 hown' hgrow _
  have hlt : b < w.heap.size := (Array.getElem?_eq_some_iff.1 hbk).1
  have hb2 : w2.heap[b]? = some (.cells #[.pointer (some ⟨b, 0, none⟩), v] 76 (0, 0)) := by
    rw [hgrow.block b hlt (fun e => hne e.symm)]
    exact hbk
  have d0 : w2.cell? ⟨b, 0, none⟩ = some (.pointer (some ⟨b, 0, none⟩)) := by rw [Lib.cell_of_heap hb2]; rfl
  have d1 : w2.cell? ⟨b, 1, none⟩ = some v := by rw [Lib.cell_of_heap hb2]; rfl
  have f1 : w2.frozen? ⟨b, 1, none⟩ = false := Lib.frozen_of_heap hb2 1
  obtain ⟨ao, n', cap, rfl⟩ : ∃ ao n' cap, v' = .slice ao n' cap := by
    rcases hown'.2 with ⟨hv, _⟩ | ⟨g, cap, cur, hv, _⟩
    · exact ⟨_, _, _, hv⟩
    · exact ⟨_, _, _, hv⟩
  go_wp2
  go_ret2
  have hl2 : Lib.byteCells (l ++ s.data.toList) = Lib.byteCells l ++ Lib.strCells s := by simp [Lib.byteCells, Lib.strCells]
  refine ⟨rfl, ?_, ?_⟩
  · unfold Bld; rw [hl2]
    exact Lib.BuilderAt.put (T := 76) (e := 5) hB hb2 (bs' := Lib.byteCells l ++ Lib.strCells s) (by simpa [Lib.strCells_length, hbl] using hown') (by decide)
  · exact ((Below.refl B w).grown hgrow (by omega) (fun k hk => (hown.lt k hk).1)).setCell (p := ⟨b, 1, none⟩) hB _
set_option maxRecDepth 100000 in
set_option maxHeartbeats 2000000 in
theorem bld_WriteByteI (B b : Nat) (l : List UInt8) (c : UInt8) (w : World) (h : Bld B b l w) (hlen : l.length + 1 ≤ 140737488355328) (hBw : B ≤ w.heap.size) :
    Calls Tryd.prog 56 #[.pointer (some ⟨b, 0, none⟩), .int .u8 c.toNat] w fun e w' => e = .returned .nilIface ∧ Bld B b (l ++ [c]) w' ∧ Below B w w' ∧ Iters w w' := by
  obtain ⟨i0, hi, hz0, hz1, hz2⟩ := info_parts Tryd.info8b
  obtain ⟨hB, v, hbk, hown, hne⟩ := h
  have hbl : (Lib.byteCells l).length = l.length := by simp [Lib.byteCells]
  go_enter Tryd.func56, Tryd.ntmps56
  go_wp2_with (go_at_call 67; refine (bld_copyCheck b v _ hbk).mono ?_)
  rintro e w1 ⟨rfl, rfl⟩
  have c0 : w.cell? ⟨b, 0, none⟩ = some (.pointer (some ⟨b, 0, none⟩)) := by rw [Lib.cell_of_heap hbk]; rfl
  have c1 : w.cell? ⟨b, 1, none⟩ = some v := by rw [Lib.cell_of_heap hbk]; rfl
  go_wp2_with (at_builtin; refine wpList_append_own _ rfl _ _ 64 rfl B 5 i0 (.int .u8 0) 1 1 Tryd.underlying64 hi hz0 hz1 hz2 rfl (by decide) _ _ _ rfl (hown.alloc _) ⟨w.heap.size, 0, none⟩ 1 1 [.int .u8 c.toNat] rfl rfl ?c1 ?c2 ?c3 ?c4 ?c5 ?_)
  case c1 =>
    intro j u hj
    match j, hj with
    | 0, hj => simp at hj; subst hj; simp [Addr.add]
  case c2 => intro u hu; simp at hu; subst hu; rfl
  case c3 => unfold maxLen; omega
  case c4 => omega
  case c5 => simp; omega
  intro v' w2 hown' hgrow _
  have hlt : b < w.heap.size := (Array.getElem?_eq_some_iff.1 hbk).1
  have hb2 : w2.heap[b]? = some (.cells #[.pointer (some ⟨b, 0, none⟩), v] 76 (0, 0)) := by
    rw [hgrow.block b (by simp; omega) (fun e => hne e.symm), Lib.alloc_old w _ b hlt]
    exact hbk
  have d0 : w2.cell? ⟨b, 0, none⟩ = some (.pointer (some ⟨b, 0, none⟩)) := by rw [Lib.cell_of_heap hb2]; rfl
  have d1 : w2.cell? ⟨b, 1, none⟩ = some v := by rw [Lib.cell_of_heap hb2]; rfl
  have f1 : w2.frozen? ⟨b, 1, none⟩ = false := Lib.frozen_of_heap hb2 1
  obtain ⟨g, cap, rfl⟩ : ∃ g cap, v' = .slice (some ⟨g, 0, none⟩) (l.length + 1) cap := by
    rcases hown'.2 with ⟨_, h0⟩ | ⟨g, cap, cur, hv, _⟩
    · omega
    · exact ⟨g, cap, hv⟩
  go_wp2
  go_ret
  have hl2 : Lib.byteCells (l ++ [c]) = Lib.byteCells l ++ [.int .u8 c.toNat] := by simp [Lib.byteCells]
  refine ⟨rfl, ?_, ?_, iters_put hbk hown hgrow⟩
  · unfold Bld; rw [hl2]
    exact Lib.BuilderAt.put (T := 76) (e := 5) hB hb2 (bs' := Lib.byteCells l ++ [.int .u8 c.toNat]) (by simpa [hbl] using hown') (by decide)
  · exact (((Below.refl B w).alloc hBw _).grown hgrow (by simp; omega) (fun k hk => (hown.lt k hk).1)).setCell (p := ⟨b, 1, none⟩) hB _
theorem bld_WriteByte (B b : Nat) (l : List UInt8) (c : UInt8) (w : World) (h : Bld B b l w) (hlen : l.length + 1 ≤ 140737488355328) (hBw : B ≤ w.heap.size) :
    Calls Tryd.prog 56 #[.pointer (some ⟨b, 0, none⟩), .int .u8 c.toNat] w fun e w' => e = .returned .nilIface ∧ Bld B b (l ++ [c]) w' ∧ Below B w w' :=
  (bld_WriteByteI B b l c w h hlen hBw).mono fun _ _ ⟨h1, h2, h3, _⟩ => ⟨h1, h2, h3⟩
end Go.Proofs.YtlgibcphfmjddaaDoor
