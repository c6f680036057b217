/-
  A table that comes in: a struct of one list of rows of two code points, opened. No condition.
-/
import Derived.Test.YtlgibcphfmjddaaDoorTabX
import Derived.Test.YtlgibcphfmjddaaDoorMapS
import Derived.Deep.SlicePairs
import Derived.Lib.SmallJoins
import Derived.SizedLaws
namespace Go.Proofs.YtlgibcphfmjddaaDoor
open Go.RowKit Go.ChangeShapes Go.WideShapes Go.ChangeAt Go.Joins
set_option linter.unusedVariables false

section
variable {H : Type} {enc : TypeId × Value → H} {P : Program} {w : World} {base : Nat} {spare : Nat → Bool} {held : Bool}
theorem open_agg1 {r : Reach} {b0 : Nat} {t : TypeId} {f0 : Field} {v : Value} {d : DataW H} {p : List MemPlace} (hs : P.underlying t = some (.struct #[f0])) (ho : f0.offset = 0) (hk : P.cellsOf f0.type = 1) (hC : P.cellsOf t = 1)
    (hv : Value.okWide P w r b0 t v) (h : DataW.Trod enc P w base spare held t v d p) :
    ∃ (v0 : Value) (y0 : DataW H × List MemPlace) (n : Nat), v = .agg #[v0] ∧ d = .agg [y0.1] ∧ p = y0.2 ∧ DataW.trod enc P w base spare held n f0.type [v0] = some y0 := by
  obtain ⟨cs, rfl, hsz⟩ := okWide_struct hs hv
  obtain ⟨l⟩ := cs
  match l, hsz.trans hC with
  | [c0], _ =>
    obtain ⟨fuel, hf⟩ := h
    obtain ⟨y0, n, hx, _, h0⟩ := trod_struct1 hs hf
    simp only [Prod.mk.injEq] at hx
    exact ⟨c0, y0, n, rfl, hx.1, hx.2, by simpa [Value.cells, ho, hk] using h0⟩
end
theorem open_rows {H : Type} {enc : TypeId × Value → H} {W : World} {base : Nat} {sp : Nat → Bool} {held : Bool} {fuel : Nat} {cs : List Value} {x : DataW H × List MemPlace}
    (h : DataW.trod enc Tryd.prog W base sp held fuel 22 cs = some x) :
    ∃ a len cap zs, cs = [.slice a len cap] ∧ Lies W W.heap.size 2 a len (rcells zs) ∧ Small zs ∧ (len = 0 ∨ ∃ e s, x.1 = .slice e s ∧ e.length = len) := by
  rcases Deep.open_slice_pairs Tryd.underlying22 Tryd.underlying73 (by kernel_rfl) rfl rfl (by kernel_rfl) (by kernel_rfl) h with ⟨rfl, rfl⟩ | ⟨a, len, cap, m, n, V0, V1, D0, D1, P0, P1, rfl, hb, hl, hm, hmm, rfl, hx⟩
  · refine ⟨none, 0, 0, [], rfl, ⟨rfl, fun h => absurd h (by omega)⟩, ?_, .inl rfl⟩
    intro r hr; cases hr
  · have hlm : len ≤ m := by rw [hmm]; split <;> omega
    have each : ∀ i, i < m → ∃ q : Int × Int, V0 i = .int .i32 q.1 ∧ V1 i = .int .i32 q.2 ∧ (Lit.int .i32 q.2).wf = true := by
      intro i hi
      obtain ⟨_, _, h0, h1⟩ := hx i hi
      obtain ⟨n0, e0, _, _⟩ := DataW.trod_int Tryd.underlying21 h0
      obtain ⟨n1, e1, _, w1⟩ := DataW.trod_int Tryd.underlying21 h1
      simp only [List.cons.injEq, and_true] at e0 e1
      exact ⟨(n0, n1), e0, e1, w1⟩
    obtain ⟨q, hq⟩ := Deep.choose_lt each
    refine ⟨some a, len, cap, (List.range len).map q, rfl, ⟨by rw [rcells_len]; simp, fun hn => ?_⟩, ?_, .inr ⟨_, _, rfl, by simp⟩⟩
    · obtain ⟨g, o, s⟩ := a
      have h0 := (hx 0 (by omega)).1
      simp only [Nat.zero_mul] at h0
      rw [show (⟨g, o, s⟩ : Addr).add 0 = ⟨g, o, s⟩ by simp [Addr.add]] at h0
      cases s with
      | some s => have := World.cell?_spot h0; simp at this
      | none =>
        have hlt : g < W.heap.size := by
          rcases Nat.lt_or_ge g W.heap.size with h | h
          · exact h
          · simp [World.cell?, Array.getElem?_eq_none h] at h0
        refine ⟨g, o, rfl, hlt, fun j hj => ?_⟩
        rw [rcells_len] at hj
        simp only [List.length_map, List.length_range] at hj
        have ea : ∀ j, (⟨g, o, none⟩ : Addr).add j = ⟨g, o + j, none⟩ := fun j => by unfold Addr.add; by_cases h : j = 0 <;> simp [h]
        obtain ⟨k0, k1, _, _⟩ := hx (j / 2) (by omega)
        rw [ea] at k0 k1
        obtain ⟨q0, q1, _⟩ := hq (j / 2) (by omega)
        have h2 := rcells_at ((List.range len).map q) (j / 2) (by simp; omega)
        simp only [List.getElem_map, List.getElem_range] at h2
        rw [← List.getElem?_eq_getElem]
        rcases Nat.mod_two_eq_zero_or_one j with e | e
        · rw [q0] at k0
          rw [show j / 2 * 2 = j by omega] at k0 h2
          rw [k0, h2.1]
        · rw [q1] at k1
          rw [show j / 2 * 2 + 1 = j by omega] at k1 h2
          rw [k1, h2.2]
    · intro r hr
      obtain ⟨i, hi, rfl⟩ := List.mem_map.1 hr
      have := (hq i (by have := List.mem_range.1 hi; omega)).2.2
      have e1 : IntKind.i32.min = -2147483648 := rfl
      have e2 : IntKind.i32.max = 2147483647 := rfl
      simp [Lit.wf, e1, e2] at this
      omega
theorem sized_table {H : Type} {ts : List TypeId} {ds : List (DataW H)} (h : (DataW.weightsEach Tryd.prog ts ds).all (· ≤ reachBytes) = true) {j : Nat} {t : TypeId} {elems spare : List (DataW H)} (ht : ts[j]? = some t) (hd : ds[j]? = some (.agg [.slice elems spare])) (htt : t = 24 := by rfl) :
    (elems.length + spare.length) * 8 ≤ 140737488351232 := by
  subst htt
  have := List.all_eq_true.1 h _ (DataW.weights_mem_each ht hd ((elems.length + spare.length) * Tryd.prog.bytesOf 73) (by simp [DataW.weights, DataW.weightsEach, Tryd.underlying24, Tryd.underlying22]))
  rw [show Tryd.prog.bytesOf 73 = 8 by kernel_rfl] at this
  exact of_decide_eq_true this
end Go.Proofs.YtlgibcphfmjddaaDoor
