/-
  Words for memory: where a slice's cells lie; how they are kept. No condition.
-/
import Derived.Test.YtlgibcphfmjddaaDoorBase
import Derived.OwnWalk
import Derived.Laws.IdiomStrings
import Derived.Laws.OwnMore
import Derived.Deep.AppendLies
import Derived.Maps.AppendAt
import Derived.WalkSmall
namespace Go.Proofs.YtlgibcphfmjddaaDoor
open Go.RowKit
set_option linter.unusedVariables false

/-- A slice of integers that came in: nil, or a row of 'cap' numbers. -/
def IsRow (k : IntKind) (w : World) (a : Option Addr) (len cap : Nat) (zs : List Int) : Prop :=
  (a = none ∧ len = 0 ∧ cap = 0 ∧ zs = []) ∨
  ∃ x, a = some x ∧ len ≤ cap ∧ cap ≤ maxLen ∧ zs.length = cap ∧ (∀ i, i < zs.length → w.cell? (x.add i) = some (.int k (zs.getD i 0))) ∧ ∀ n ∈ zs, (Lit.int k n).wf = true

/-- A slice of n elements of sz cells each: its cells are xs and lie below block B. -/
def Lies (w : World) (B sz : Nat) (a : Option Addr) (n : Nat) (xs : List Value) : Prop :=
  xs.length = n * sz ∧ (0 < n → ∃ g o, a = some ⟨g, o, none⟩ ∧ g < B ∧ ∀ j (h : j < xs.length), w.cell? ⟨g, o + j, none⟩ = some xs[j])

section
variable {w w' : World} {B B' sz n : Nat} {a : Option Addr} {xs : List Value}
theorem Lies.below (h : Lies w B sz a n xs) (hb : Below B w w') : Lies w' B sz a n xs := by
  refine ⟨h.1, fun hn => ?_⟩
  obtain ⟨g, o, e, hg, hc⟩ := h.2 hn
  exact ⟨g, o, e, hg, fun j hj => (hb.cell (p := ⟨g, o + j, none⟩) hg).trans (hc j hj)⟩
theorem Lies.up (h : Lies w B sz a n xs) (hb : B ≤ B') : Lies w B' sz a n xs := by
  refine ⟨h.1, fun hn => ?_⟩
  obtain ⟨g, o, e, hg, hc⟩ := h.2 hn
  exact ⟨g, o, e, by omega, hc⟩
theorem Lies.empty : Lies w B sz a 0 [] := ⟨by simp, fun h => absurd h (by omega)⟩
/-- in a later world -/
theorem Lies.later (h : Lies w w.heap.size sz a n xs) (hb : Below w.heap.size w w') : Lies w' w'.heap.size sz a n xs := (h.below hb).up hb.size
theorem Lies.of_own {base : Nat} {e : TypeId} {c : Nat} (h : w.ownsRow base e sz (.slice a n c) n xs) : Lies w w.heap.size sz a n xs := by
  refine ⟨h.1, fun hn => ?_⟩
  obtain ⟨g, cap, hv, _, hlt⟩ := h.form hn
  obtain rfl : a = some ⟨g, 0, none⟩ := by injection hv
  refine ⟨g, 0, rfl, hlt, fun j hj => ?_⟩
  have := h.cells (g := g) rfl j xs[j] (List.getElem?_eq_getElem hj)
  unfold Addr.add at this
  rw [show (0 + j : Nat) = j by omega]
  by_cases h0 : j = 0
  · subst h0; simpa using this
  · simpa [h0] using this
theorem Lies.news {x : Addr} (h : Lies w B 1 (some x) n xs) : ∀ j u, xs[j]? = some u → w.cell? (x.add j) = some u := by
  intro j u hu
  obtain ⟨hj, rfl⟩ := List.getElem?_eq_some_iff.1 hu
  obtain ⟨g, o, e, hg, hc⟩ := h.2 (by have := h.1; omega)
  injection e with e
  subst e
  have ea : (⟨g, o, none⟩ : Addr).add j = ⟨g, o + j, none⟩ := by
    unfold Addr.add; by_cases h : j = 0 <;> simp [h]
  rw [ea]; exact hc j hj
end

theorem add_is (x : Addr) (j : Nat) : x.add j = if j = 0 then x else x.add j := by
  unfold Addr.add; split <;> rfl
theorem IsRow.lies {k : IntKind} {w : World} {a : Option Addr} {len cap : Nat} {zs : List Int} (h : IsRow k w a len cap zs) : Lies w w.heap.size 1 a len ((zs.take len).map (Value.int k)) := by
  rcases h with ⟨rfl, rfl, rfl, rfl⟩ | ⟨x, rfl, hl, hm, hz, hc, hw⟩
  · exact Lies.empty
  · refine ⟨by simp; omega, fun hn => ?_⟩
    have h0 := hc 0 (by omega)
    have hx0 : x.add 0 = x := by simp [Addr.add]
    rw [hx0] at h0
    obtain ⟨g, o, p⟩ := x
    cases p with
    | some p => have := World.cell?_spot h0; simp at this
    | none =>
      have hlt : g < w.heap.size := by
        rcases Nat.lt_or_ge g w.heap.size with h | h
        · exact h
        · simp [World.cell?, Array.getElem?_eq_none h] at h0
      refine ⟨g, o, rfl, hlt, fun j hj => ?_⟩
      simp at hj
      have := hc j (by omega)
      have ea : (⟨g, o, none⟩ : Addr).add j = ⟨g, o + j, none⟩ := by
        unfold Addr.add; by_cases h : j = 0 <;> simp [h]
      rw [ea] at this
      rw [this]
      simp [List.getD, List.getElem?_eq_getElem (show j < zs.length by omega)]
theorem IsRow.le {k : IntKind} {w : World} {a : Option Addr} {len cap : Nat} {zs : List Int} (h : IsRow k w a len cap zs) : len ≤ cap ∧ zs.length = cap := by
  rcases h with ⟨rfl, rfl, rfl, rfl⟩ | ⟨x, rfl, hl, hm, hz, hc, hw⟩
  · simp
  · exact ⟨hl, hz⟩
theorem IsRow.wf {k : IntKind} {w : World} {a : Option Addr} {len cap : Nat} {zs : List Int} (h : IsRow k w a len cap zs) : ∀ n ∈ zs, (Lit.int k n).wf = true := by
  rcases h with ⟨rfl, rfl, rfl, rfl⟩ | ⟨x, rfl, hl, hm, hz, hc, hw⟩
  · simp
  · exact hw

/-- bytes as cells -/
def bcell (b : UInt8) : Value := .int .u8 (b.toNat : Int)
theorem conv_nil {P : Program} (w : World) (src dst e : TypeId) (c : Nat) (hs : P.underlying src = some (.slice e)) (he : P.underlying e = some (.int .u8)) (hd : P.underlying dst = some .string) :
    (convert src dst (.slice none 0 c)).run P w = .ok (.string ⟨#[]⟩) w := by
  rw [run_convert_bytes_string w src dst e none 0 c hs he hd]
  rfl
/-- 'string(b)', b a row of the call's own -/
theorem conv_own {P : Program} (w : World) (src dst e : TypeId) {base n : Nat} {v : Value} {l : List UInt8} (hs : P.underlying src = some (.slice e)) (he : P.underlying e = some (.int .u8)) (hd : P.underlying dst = some .string)
    (h : w.ownsRow base e 1 v n (l.map bcell)) : (convert src dst v).run P w = .ok (.string ⟨l.toArray⟩) w := by
  have hl : l.length = n := by have := h.1; simpa using this
  rcases h.2 with ⟨rfl, h0⟩ | ⟨g, cap, cur, rfl, hb, hg, _⟩
  · subst h0
    obtain rfl : l = [] := List.length_eq_zero_iff.1 hl
    exact conv_nil w src dst e 0 hs he hd
  · subst hl
    refine run_convert_bytes_back w src dst e _ cap l hs he hd (fun j hj => ?_)
    have := h.cells (g := g) rfl j (bcell l[j]) (by rw [List.getElem?_map, List.getElem?_eq_getElem hj]; rfl)
    exact this
theorem bcell_one : ∀ (l : List UInt8), ∀ u ∈ l.map bcell, u.oneCell' = true := by
  intro l u hu
  obtain ⟨b, _, rfl⟩ := List.mem_map.1 hu
  rfl
theorem own_slice {w : World} {base e sz n : Nat} {v : Value} {xs : List Value} (h : w.ownsRow base e sz v n xs) : ∃ a c, v = .slice a n c := by
  rcases h.2 with ⟨rfl, h0⟩ | ⟨g, cap', cur, rfl, _⟩
  · exact ⟨none, 0, by rw [h0]⟩
  · exact ⟨_, _, rfl⟩
/-- a block that lay ahead of an append onto another row -/
theorem block_cells {w w1 : World} {row : Option Nat} {cs : Array Value} {t : TypeId} (hg : (w.alloc (.cells cs t)).grownBy w1 row) (hr : some w.heap.size ≠ row) :
    (∀ j, w1.cell? ⟨w.heap.size, j, none⟩ = cs[j]?) ∧ (∀ j, w1.frozen? ⟨w.heap.size, j, none⟩ = false) ∧ w.heap.size < w1.heap.size := by
  have hbk := hg.block w.heap.size (by simp) hr
  refine ⟨fun j => ?_, fun j => ?_, by have := hg.size; simp at this; omega⟩
  · rw [World.cell?_of_block hbk, World.cell?_alloc_at _ _ _ _ rfl]
  · rw [World.frozen?_of_block hbk, World.frozen?_alloc_at _ _ _ _ rfl]
/-- two rows whose elements are of two types lie apart -/
theorem own_apart {w : World} {b1 b2 e1 e2 s1 s2 n1 n2 : Nat} {v1 v2 : Value} {x1 x2 : List Value} (h1 : w.ownsRow b1 e1 s1 v1 n1 x1) (h2 : w.ownsRow b2 e2 s2 v2 n2 x2) (hne : e1 ≠ e2) : v1.ownBlock = none ∨ v1.ownBlock ≠ v2.ownBlock := by
  rcases h1.2 with ⟨rfl, _⟩ | ⟨g, c, cur, rfl, _, hg, _⟩
  · exact .inl rfl
  · right
    rcases h2.2 with ⟨rfl, _⟩ | ⟨g', c', cur', rfl, _, hg', _⟩
    · simp [Value.ownBlock]
    · intro he
      have : g = g' := by simpa [Value.ownBlock] using he
      subst this
      rw [hg] at hg'
      injection hg' with hg'
      injection hg' with _ ht
      exact hne ht
/-- a block that is known whole -/
def Box (w : World) (g t : Nat) (cs : Array Value) : Prop := w.heap[g]? = some (.cells cs t (0, 0))
theorem Box.lt {w : World} {g t : Nat} {cs : Array Value} (h : Box w g t cs) : g < w.heap.size := (Array.getElem?_eq_some_iff.1 h).1
theorem Box.cell {w : World} {g t : Nat} {cs : Array Value} (h : Box w g t cs) (j : Nat) : w.cell? ⟨g, j, none⟩ = cs[j]? := by
  unfold Box at h; simp [World.cell?, h]
theorem Box.frozen {w : World} {g t : Nat} {cs : Array Value} (h : Box w g t cs) (j : Nat) : w.frozen? ⟨g, j, none⟩ = false := by
  unfold Box at h; simp [World.frozen?, h]
theorem Box.new (w : World) (t : Nat) (cs : Array Value) : Box (w.alloc (.cells cs t)) w.heap.size t cs := by
  show (w.heap.push _)[w.heap.size]? = _
  simp
theorem Box.alloc {w : World} {g t : Nat} {cs : Array Value} (h : Box w g t cs) (o : Obj) : Box (w.alloc o) g t cs := (Below.heap_alloc w o g h.lt).trans h
theorem Box.below {w w' : World} {B g t : Nat} {cs : Array Value} (h : Box w g t cs) (hb : Below B w w') (hg : g < B) : Box w' g t cs := (hb.block g hg).trans h
theorem Box.later {w w' : World} {g t : Nat} {cs : Array Value} (h : Box w g t cs) (hb : Below w.heap.size w w') : Box w' g t cs := h.below hb h.lt
theorem Box.grown {w w' : World} {row : Option Nat} {g t : Nat} {cs : Array Value} (h : Box w g t cs) (hb : w.grownBy w' row) (hg : some g ≠ row) : Box w' g t cs := (hb.block g h.lt hg).trans h
theorem Box.set {w : World} {g t : Nat} {cs : Array Value} (h : Box w g t cs) (i : Nat) (u : Value) : Box (w.setCell ⟨g, i, none⟩ u) g t (cs.setIfInBounds i u) := by
  unfold Box at h ⊢; simp [World.setCell, Array.getElem?_modify, h]
theorem Box.apart {w : World} {g t b e sz n : Nat} {cs : Array Value} {v : Value} {xs : List Value} (h : Box w g t cs) (ho : w.ownsRow b e sz v n xs) (hne : t ≠ e) : some g ≠ v.ownBlock := by
  intro he
  rcases ho.2 with ⟨rfl, _⟩ | ⟨g', c, cur, rfl, _, hg, _⟩
  · simp [Value.ownBlock] at he
  · have : g = g' := by simpa [Value.ownBlock] using he
    subst this
    unfold Box at h
    rw [h] at hg
    injection hg with hg
    injection hg with _ ht
    exact hne ht
theorem own_later {w w' : World} {b e sz n : Nat} {v : Value} {xs : List Value} (h : w.ownsRow b e sz v n xs) (hb : Below w.heap.size w w') : w'.ownsRow b e sz v n xs :=
  h.kept (row := none) ⟨hb.os, hb.tape, hb.output, hb.size, fun q hq _ => hb.block q hq⟩ (Classical.em _)
/-- three blocks laid one behind the other, later on -/
theorem three_blocks {w w1 : World} {c0 c1 c2 : Array Value} {t0 t1 t2 : TypeId} (hb : Below (((w.alloc (.cells c0 t0)).alloc (.cells c1 t1)).alloc (.cells c2 t2)).heap.size (((w.alloc (.cells c0 t0)).alloc (.cells c1 t1)).alloc (.cells c2 t2)) w1) :
    (∀ j, w1.cell? ⟨w.heap.size, j, none⟩ = c0[j]? ∧ w1.cell? ⟨w.heap.size + 1, j, none⟩ = c1[j]? ∧ w1.cell? ⟨w.heap.size + 1 + 1, j, none⟩ = c2[j]?) ∧
    (∀ j, w1.frozen? ⟨w.heap.size, j, none⟩ = false ∧ w1.frozen? ⟨w.heap.size + 1, j, none⟩ = false ∧ w1.frozen? ⟨w.heap.size + 1 + 1, j, none⟩ = false) ∧ w.heap.size + 1 + 1 < w1.heap.size := by
  have hs := hb.size
  simp only [World.size_alloc] at hs
  refine ⟨fun j => ⟨?_, ?_, ?_⟩, fun j => ⟨?_, ?_, ?_⟩, by omega⟩
  · rw [hb.cell (p := ⟨w.heap.size, j, none⟩) (by simp only [World.size_alloc]; omega), World.cell?_alloc_past _ _ _ (by simp only [World.size_alloc]; omega), World.cell?_alloc_past _ _ _ (by simp only [World.size_alloc]; omega), World.cell?_alloc_at _ _ _ _ rfl]
  · rw [hb.cell (p := ⟨w.heap.size + 1, j, none⟩) (by simp only [World.size_alloc]; omega), World.cell?_alloc_past _ _ _ (by simp only [World.size_alloc]; omega), World.cell?_alloc_at _ _ _ _ (by simp only [World.size_alloc])]
  · rw [hb.cell (p := ⟨w.heap.size + 1 + 1, j, none⟩) (by simp only [World.size_alloc]; omega), World.cell?_alloc_at _ _ _ _ (by simp only [World.size_alloc])]
  · rw [hb.frozen (p := ⟨w.heap.size, j, none⟩) (by simp only [World.size_alloc]; omega), World.frozen?_alloc_past _ _ _ (by simp only [World.size_alloc]; omega), World.frozen?_alloc_past _ _ _ (by simp only [World.size_alloc]; omega), World.frozen?_alloc_at _ _ _ _ rfl]
  · rw [hb.frozen (p := ⟨w.heap.size + 1, j, none⟩) (by simp only [World.size_alloc]; omega), World.frozen?_alloc_past _ _ _ (by simp only [World.size_alloc]; omega), World.frozen?_alloc_at _ _ _ _ (by simp only [World.size_alloc])]
  · rw [hb.frozen (p := ⟨w.heap.size + 1 + 1, j, none⟩) (by simp only [World.size_alloc]; omega), World.frozen?_alloc_at _ _ _ _ (by simp only [World.size_alloc])]
theorem grown_below {w w' : World} {row : Option Nat} {B : Nat} (hg : w.grownBy w' row) (hB : B ≤ w.heap.size) (hr : ∀ k, row = some k → B ≤ k) : Below B w w' :=
  (Below.refl B w).grown hg hB hr
end Go.Proofs.YtlgibcphfmjddaaDoor
