/-
  Plain laws on how many code points a mapped text has; lists of code points in memory. No condition.
-/
import Derived.Test.YtlgibcphfmjddaaDoorMapU
import Derived.Test.YtlgibcphfmjddaaDoorMapP
import Derived.Test.YtlgibcphfmjddaaDoorTab
namespace Go.Proofs.YtlgibcphfmjddaaDoor
open Go.RowKit
set_option linter.unusedVariables false

/-- how many code points have an image that is not below 0 -/
def cntF (f : Int → Int) (ps : List Pc) : Nat := (ps.map (fun p => p.r)).countP (fun r : Nat => decide (0 ≤ f (r : Int)))
theorem cnt_succ (f : Int → Int) (ps : List Pc) (k : Nat) (hk : k < ps.length) : cntF f (ps.take (k + 1)) = cntF f (ps.take k) + (if 0 ≤ f (ps[k].r : Int) then 1 else 0) := by
  unfold cntF
  rw [List.take_succ_eq_append_getElem hk, List.map_append, List.countP_append]
  simp [List.countP_cons, List.countP_nil]
theorem cnt_le (f : Int → Int) (ps : List Pc) (k : Nat) : cntF f (ps.take k) ≤ k := by
  unfold cntF
  have := List.countP_le_length (p := fun r : Nat => decide (0 ≤ f (r : Int))) (l := (ps.take k).map (fun p => p.r))
  simp at this ⊢; omega
theorem mapCh_count (f : Int → Int) : ∀ cs : List Ch, (mapCh f cs).length = (cs.map (·.1)).countP (fun r : Nat => decide (0 ≤ f (r : Int)))
  | [] => rfl
  | c :: cs => by
    have ih := mapCh_count f cs
    unfold mapCh at ih ⊢
    rw [List.flatMap_cons, List.length_append, ih, List.map_cons, List.countP_cons]
    by_cases h : 0 ≤ f (c.1 : Int) <;> simp [h] <;> omega
theorem map_count (f : Int → Int) (l : List UInt8) : (pcs 0 (Lib.mapD f l)).length = cntF f (pcs 0 l) := by
  unfold cntF
  rw [pcs_count, map_chs, mapCh_count, pcs_lay, lay_map_r]
theorem small_zip (xs ys : List Int) (h : ∀ z ∈ ys, (Lit.int .i32 z).wf = true) : Small (xs.zip ys) := by
  intro r hr
  have := h r.2 (List.of_mem_zip hr).2
  have e1 : IntKind.i32.min = -2147483648 := rfl
  have e2 : IntKind.i32.max = 2147483647 := rfl
  simp [Lit.wf, e1, e2] at this
  omega
theorem runes_lie {w : World} {B g c : Nat} {ps : List Pc} (h : w.ownsRow B 21 1 (.slice (some ⟨g, 0, none⟩) ps.length c) ps.length (rvals ps)) : Lies w w.heap.size 1 (some ⟨g, 0, none⟩) ps.length (ivals (ps.map (fun p => (p.r : Int)))) := by
  have := Lies.of_own h
  have e : rvals ps = ivals (ps.map (fun p => (p.r : Int))) := by unfold rvals ivals; rw [List.map_map]; rfl
  rwa [e] at this
end Go.Proofs.YtlgibcphfmjddaaDoor
