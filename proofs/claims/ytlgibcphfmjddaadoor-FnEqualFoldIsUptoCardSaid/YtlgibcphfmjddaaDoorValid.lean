/-
  Contracts of strings.ToValidUTF8 and impl.ToValidUTF8. Conditions: the tables of unicode/utf8 lie; the text, and what comes out, is of at most 2^40 bytes.
-/
import Derived.Test.YtlgibcphfmjddaaDoorBld
import Derived.Test.YtlgibcphfmjddaaDoorMend
import Derived.Test.YtlgibcphfmjddaaDoorTabs
namespace Go.Proofs.YtlgibcphfmjddaaDoor
open Go.RowKit
set_option linter.unusedVariables false

theorem run_append_keep {P : Program} (w : World) (base : Nat) (t u ty e : TypeId) (i : TypeInfo) (ht : P.underlying t = some (.slice e)) (hu : P.underlying u = some .string) (hi : P.info? e = some i) (hz : i.zero = some (.int .u8 0))
    (hsize : i.size = 1) (hby : i.bytes = 1) (g n cap : Nat) (xs : List Value) (hown : w.ownsRow base e 1 (.slice (some ⟨g, 0, none⟩) n cap) n xs) (s : ByteArray)
    (hbytes : n + s.size ≤ 140737488355328) (hbase : base ≤ w.heap.size) (hroom : n + s.size ≤ cap) :
    ∃ w', (Builtin.append_ #[t, u] ty #[.slice (some ⟨g, 0, none⟩) n cap, .string s]).run P w = .ok (.slice (some ⟨g, 0, none⟩) (n + s.size) cap) w' ∧ w'.ownsRow base e 1 (.slice (some ⟨g, 0, none⟩) (n + s.size) cap) (n + s.size) (xs ++ Lib.strCells s) ∧ w.grownBy w' (some g) := by
  obtain ⟨v', w', hr, h2, h3, _⟩ := Lib.run_append_own_string (P := P) w base t u ty e i ht hu hi hz hsize hby _ n xs hown s (by unfold maxLen; omega) hbytes hbase
  rcases hown.2 with ⟨hv, _⟩ | ⟨g', cap', cur, hv, hbg, hg, hnc, hcm, hcs, htake⟩
  · cases hv
  · injection hv with e1 e2 e3
    injection e1 with e1
    injection e1 with e1
    subst e1; subst e3
    have hr2 := Lib.run_append_room_string (P := P) w t u ty e i ht hu hi hsize g n cap cur hg s hroom (by omega)
    have h4 := hr.symm.trans hr2
    injection h4 with e5 e6
    subst e5
    exact ⟨w', hr, h2, h3⟩
theorem wp_append_keep {P : Program} {w : World} {ops : Array Oper} {rest : List Oper} {o : Oper} {a : Act} {Q : Exit → Act → World → Prop} (hgd : o.guard = none) (sl x : Operand) (t u : TypeId)
    (ho : o.op = .call { callee := .builtin .append, args := #[sl, x], argTypes := #[t, u] })
    (base : Nat) (e : TypeId) (i : TypeInfo) (ht : P.underlying t = some (.slice e)) (hu : P.underlying u = some .string) (hi : P.info? e = some i) (hz : i.zero = some (.int .u8 0))
    (hsize : i.size = 1) (hby : i.bytes = 1)
    (g n cap : Nat) (xs : List Value) (hs : a.eval sl = .slice (some ⟨g, 0, none⟩) n cap) (hown : w.ownsRow base e 1 (.slice (some ⟨g, 0, none⟩) n cap) n xs) (s : ByteArray) (hx : a.eval x = .string s)
    (hbytes : n + s.size ≤ 140737488355328) (hbase : base ≤ w.heap.size) (hroom : n + s.size ≤ cap)
    (h : ∀ w', w'.ownsRow base e 1 (.slice (some ⟨g, 0, none⟩) (n + s.size) cap) (n + s.size) (xs ++ Lib.strCells s) → w.grownBy w' (some g) → wpList P ops Q rest (a.put o.dst (.slice (some ⟨g, 0, none⟩) (n + s.size) cap)) w') : wpList P ops Q (o :: rest) a w := by
  refine wpList_plain hgd fun K hK => ?_
  obtain ⟨w', hr, h2, h3⟩ := run_append_keep (P := P) w base t u o.type e i ht hu hi hz hsize hby g n cap xs hown s hbytes hbase hroom
  unfold Oper.wp execOp
  simp only [ho, resolve, invoke, builtin, Sem.run_bind, Sem.run_pure, Result.andThen_ok, List.map_toArray, List.map_cons, List.map_nil, hs, hx, hr]
  exact hK _ _ (h w' h2 h3)
/-- a builder whose room is known -/
def BldC (B b : Nat) (l : List UInt8) (g cap : Nat) (w : World) : Prop :=
  B ≤ b ∧ w.heap[b]? = some (.cells #[.pointer (some ⟨b, 0, none⟩), .slice (some ⟨g, 0, none⟩) l.length cap] 76 (0, 0)) ∧ w.ownsRow B 5 1 (.slice (some ⟨g, 0, none⟩) l.length cap) l.length (Lib.byteCells l)
theorem BldC.bld {B b : Nat} {l : List UInt8} {g cap : Nat} {w : World} (h : BldC B b l g cap w) : Bld B b l w := by
  obtain ⟨h1, h2, h3⟩ := h
  have hbl : (Lib.byteCells l).length = l.length := by simp [Lib.byteCells]
  exact ⟨h1, _, h2, by rw [hbl]; exact h3, Lib.ownBlock_ne h3 h2 (by decide)⟩
theorem BldC.cell {B b : Nat} {l : List UInt8} {g cap : Nat} {w : World} (h : BldC B b l g cap w) : w.cell? ⟨b, 1, none⟩ = some (.slice (some ⟨g, 0, none⟩) l.length cap) := by rw [Lib.cell_of_heap h.2.1]; rfl
theorem bldC_of {B b n : Nat} {w : World} (h : Lib.BuilderAt 76 5 B b (.pointer (some ⟨b, 0, none⟩)) [] w) (hc : ∃ p cap, w.cell? ⟨b, 1, none⟩ = some (.slice p 0 cap) ∧ n ≤ cap) (hn : 0 < n) : ∃ g cap, n ≤ cap ∧ BldC B b [] g cap w := by
  obtain ⟨hB, v, hbk, hown, hne⟩ := h
  obtain ⟨p, cap, hcell, hcap⟩ := hc
  have c1 : w.cell? ⟨b, 1, none⟩ = some v := by rw [Lib.cell_of_heap hbk]; rfl
  obtain rfl : v = .slice p 0 cap := by rw [c1] at hcell; exact Option.some.inj hcell
  rcases hown.2 with ⟨hv, _⟩ | ⟨g', cap', cur, hv, _⟩
  · injection hv with _ _ e3; omega
  · injection hv with e1 e2 e3
    subst e1; subst e3
    exact ⟨g', cap, hcap, hB, hbk, hown⟩
set_option maxRecDepth 100000 in
set_option maxHeartbeats 2000000 in
theorem bld_WriteString_room (B b : Nat) (l : List UInt8) (g cap : Nat) (s : ByteArray) (w : World) (h : BldC B b l g cap w) (hlen : l.length + s.size ≤ 140737488355328) (hBw : B ≤ w.heap.size) (hroom : l.length + s.size ≤ cap) :
    Calls Tryd.prog 53 #[.pointer (some ⟨b, 0, none⟩), .string s] w fun e w' => e = .returned (.tuple #[.int .i64 s.size, .nilIface]) ∧ BldC B b (l ++ s.data.toList) g cap w' ∧ Below B w w' := by
  obtain ⟨i0, hi, hz0, hz1, hz2⟩ := info_parts Tryd.info8b
  obtain ⟨hB, hbk, hown⟩ := h
  have hne : some b ≠ some g := fun e => Lib.ownBlock_ne hown hbk (by decide) e.symm
  go_enter Tryd.func53, Tryd.ntmps53
  go_wp2_with (go_at_call 67; refine (bld_copyCheck b _ _ hbk).mono ?_)
  rintro e w1 ⟨rfl, rfl⟩
  have c0 : w.cell? ⟨b, 0, none⟩ = some (.pointer (some ⟨b, 0, none⟩)) := by rw [Lib.cell_of_heap hbk]; rfl
  have c1 : w.cell? ⟨b, 1, none⟩ = some (.slice (some ⟨g, 0, none⟩) l.length cap) := by rw [Lib.cell_of_heap hbk]; rfl
  go_wp2_with (at_builtin; refine wp_append_keep rfl _ _ 64 9 rfl B 5 i0 Tryd.underlying64 Tryd.underlying9 hi hz0 hz1 hz2 g l.length cap _ rfl hown s rfl hlen hBw hroom ?_)
  intro w2 hown' hgrow
  have hlt : b < w.heap.size := (Array.getElem?_eq_some_iff.1 hbk).1
  have hb2 : w2.heap[b]? = some (.cells #[.pointer (some ⟨b, 0, none⟩), .slice (some ⟨g, 0, none⟩) l.length cap] 76 (0, 0)) := by
    rw [hgrow.block b hlt hne]
    exact hbk
  have d0 : w2.cell? ⟨b, 0, none⟩ = some (.pointer (some ⟨b, 0, none⟩)) := by rw [Lib.cell_of_heap hb2]; rfl
  have d1 : w2.cell? ⟨b, 1, none⟩ = some (.slice (some ⟨g, 0, none⟩) l.length cap) := by rw [Lib.cell_of_heap hb2]; rfl
  have f1 : w2.frozen? ⟨b, 1, none⟩ = false := Lib.frozen_of_heap hb2 1
  go_wp2
  go_ret2
  have hl2 : Lib.byteCells (l ++ s.data.toList) = Lib.byteCells l ++ Lib.strCells s := by simp [Lib.byteCells, Lib.strCells]
  have hl3 : (l ++ s.data.toList).length = l.length + s.size := by rw [List.length_append, len_data]
  refine ⟨rfl, ⟨hB, ?_, ?_⟩, ?_⟩
  · rw [hl3]; exact (show Box w2 b 76 _ from hb2).set 1 _
  · rw [hl3, hl2]
    exact hown'.kept (row := some b) ⟨rfl, rfl, rfl, by simp [World.setCell], fun k _ hk => Below.heap_setCell _ _ _ _ (fun e => hk (by simp [e]))⟩ (Or.inr (Lib.ownBlock_ne hown' hb2 (by decide)))
  · exact ((Below.refl B w).grown hgrow (by omega) (fun k hk => (hown.lt k hk).1)).setCell (p := ⟨b, 1, none⟩) hB _
end Go.Proofs.YtlgibcphfmjddaaDoor
