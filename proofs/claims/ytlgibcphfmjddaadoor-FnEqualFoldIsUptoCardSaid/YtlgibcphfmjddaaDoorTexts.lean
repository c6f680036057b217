/-
  Lists of texts in memory. No condition.
-/
import Derived.Test.YtlgibcphfmjddaaDoorMem
namespace Go.Proofs.YtlgibcphfmjddaaDoor
open Go.RowKit
set_option linter.unusedVariables false

/-- a list's texts, as cells -/
def strs (l : List ByteArray) : List Value := l.map Value.string
theorem strs_at {l : List ByteArray} {k : Nat} (hk : k < l.length) (h : k < (strs l).length) : (strs l)[k] = .string l[k] := by simp [strs]
/-- a list of texts that the call itself has made -/
def OwnStrs (w : World) (base g n c : Nat) (l : List ByteArray) : Prop := w.ownsRow base 9 1 (.slice (some ⟨g, 0, none⟩) n c) n (strs l)
theorem Tryd.infoStr : (Tryd.prog.info? 9).map (fun i => (i.zero, i.size, i.bytes)) = some (some (.string ⟨#[]⟩), 1, 16) := by kernel_rfl
theorem str_one (x : ByteArray) : ∀ u ∈ [Value.string x], u.oneCell' = true := by intro u hu; simp at hu; subst hu; rfl
theorem own_base {w : World} {base base' e sz n : Nat} {v : Value} {xs : List Value} (h : w.ownsRow base e sz v n xs) (hb : base' ≤ base) : w.ownsRow base' e sz v n xs := by
  refine ⟨h.1, ?_⟩
  rcases h.2 with h | ⟨g, cap, cur, h1, h2, h3⟩
  · exact .inl h
  · exact .inr ⟨g, cap, cur, h1, Nat.le_trans hb h2, h3⟩
theorem own_cap {w : World} {base e sz n c : Nat} {a : Option Addr} {xs : List Value} (h : w.ownsRow base e sz (.slice a n c) n xs) : n ≤ c := by
  rcases h.2 with ⟨hv, h0⟩ | ⟨g, cap', cur, hv, _, _, hc, _⟩
  · omega
  · cases hv; exact hc
theorem own_some {w : World} {base e sz n : Nat} {v : Value} {xs : List Value} (h : w.ownsRow base e sz v n xs) (hv : v ≠ .slice none 0 0) : ∃ g c, v = .slice (some ⟨g, 0, none⟩) n c := by
  rcases h.2 with ⟨rfl, _⟩ | ⟨g, cap', cur, rfl, _⟩
  · exact absurd rfl hv
  · exact ⟨_, _, rfl⟩
theorem own_blk {w w' : World} {b e sz n m g c : Nat} {xs : List Value} (h : w.ownsRow b e sz (.slice (some ⟨g, 0, none⟩) n c) m xs) (hb : w'.heap[g]? = w.heap[g]?) : w'.ownsRow b e sz (.slice (some ⟨g, 0, none⟩) n c) m xs := by
  refine ⟨h.1, ?_⟩
  rcases h.2 with ⟨h, _⟩ | ⟨g', cap, cur, h1, h2, h3, h4⟩
  · cases h
  · cases h1; exact .inr ⟨g, _, cur, rfl, h2, hb.trans h3, h4⟩
theorem two_cells {w : World} {q : Nat} {x y : Value} {t : TypeId} (h : w.heap[q]? = some (.cells #[x, y] t)) : w.cell? ⟨q, 0, none⟩ = some x ∧ w.cell? ⟨q, 1, none⟩ = some y := by
  constructor <;> simp [World.cell?, h]
theorem heap_lt {w : World} {q : Nat} {o : Obj} (h : w.heap[q]? = some o) : q < w.heap.size := (Array.getElem?_eq_some_iff.1 h).1

/-- a list of texts that came in -/
def IsTexts (w : World) (a : Option Addr) (len cap : Nat) (zs : List ByteArray) : Prop :=
  (a = none ∧ len = 0 ∧ cap = 0 ∧ zs = []) ∨
  ∃ x, a = some x ∧ len ≤ cap ∧ cap ≤ maxLen ∧ zs.length = cap ∧ (∀ i, i < zs.length → w.cell? (x.add i) = some (.string (zs.getD i ByteArray.empty))) ∧ ∀ s ∈ zs, s.size ≤ maxLen
theorem IsTexts.lies {w : World} {a : Option Addr} {len cap : Nat} {zs : List ByteArray} (h : IsTexts w a len cap zs) : Lies w w.heap.size 1 a len (strs (zs.take len)) := by
  rcases h with ⟨rfl, rfl, rfl, rfl⟩ | ⟨x, rfl, hl, hm, hz, hc, hw⟩
  · exact Lies.empty
  · refine ⟨by simp [strs]; omega, fun hn => ?_⟩
    have h0 := hc 0 (by omega)
    have hx0 : x.add 0 = x := by simp [Addr.add]
    rw [hx0] at h0
    obtain ⟨g, o, p⟩ := x
    cases p with
    | some p => have := World.cell?_spot h0; simp at this
    | none =>
      have hlt : g < w.heap.size := by
        rcases Nat.lt_or_ge g w.heap.size with h | h
        · exact h
        · simp [World.cell?, Array.getElem?_eq_none h] at h0
      refine ⟨g, o, rfl, hlt, fun j hj => ?_⟩
      simp [strs] at hj
      have hj' : j < zs.length := by omega
      have := hc j hj'
      rw [show (⟨g, o, none⟩ : Addr).add j = ⟨g, o + j, none⟩ by simp [Addr.add]] at this
      rw [this]
      simp [strs, List.getD_eq_getElem?_getD, hj']
theorem IsTexts.le {w : World} {a : Option Addr} {len cap : Nat} {zs : List ByteArray} (h : IsTexts w a len cap zs) : len ≤ cap ∧ zs.length = cap := by
  rcases h with ⟨rfl, rfl, rfl, rfl⟩ | ⟨x, rfl, hl, hm, hz, hc, hw⟩
  · simp
  · exact ⟨hl, hz⟩
theorem IsTexts.cap {w : World} {a : Option Addr} {len cap : Nat} {zs : List ByteArray} (h : IsTexts w a len cap zs) : cap ≤ maxLen := by
  rcases h with ⟨rfl, rfl, rfl, rfl⟩ | ⟨x, rfl, hl, hm, hz, hc, hw⟩
  · exact Nat.zero_le _
  · exact hm
theorem IsTexts.wf {w : World} {a : Option Addr} {len cap : Nat} {zs : List ByteArray} (h : IsTexts w a len cap zs) : ∀ s ∈ zs, s.size ≤ maxLen := by
  rcases h with ⟨rfl, rfl, rfl, rfl⟩ | ⟨x, rfl, hl, hm, hz, hc, hw⟩
  · simp
  · exact hw
end Go.Proofs.YtlgibcphfmjddaaDoor
