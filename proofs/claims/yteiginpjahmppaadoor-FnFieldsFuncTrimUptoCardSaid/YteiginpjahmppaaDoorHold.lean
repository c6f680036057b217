/-
  How a law's test, in its box and with its runes in memory, stays through what comes later. No condition.
-/
import Derived.Test.YteiginpjahmppaaDoorTest
import Derived.Test.YteiginpjahmppaaDoorTexts
namespace Go.Proofs.YteiginpjahmppaaDoor
open Go.RowKit
set_option linter.unusedVariables false

/-- the test lies in box X, its runes at a; what lay in w is as it was -/
structure TK (w : World) (X : Nat) (a : Option Addr) (c : Nat) (zs : List Int) (nt : Bool) (W : World) : Prop where
  x : W.heap[X]? = some (.cells #[.slice a zs.length c, .bool nt] 24)
  l : Lies W W.heap.size 1 a zs.length (ints zs)
  b : Below w.heap.size w W
section
variable {w W W' : World} {X c : Nat} {a : Option Addr} {zs : List Int} {nt : Bool}
theorem TK.later (h : TK w X a c zs nt W) (hb : Below W.heap.size W W') : TK w X a c zs nt W' :=
  ⟨(hb.block _ (heap_lt h.x)).trans h.x, h.l.later hb, h.b.trans (hb.mono h.b.size)⟩
theorem TK.drew (h : TK w X a c zs nt W) : TK w X a c zs nt W.drew := h.later ((Below.refl _ W).drew)
theorem TK.cells (h : TK w X a c zs nt W) : W.cell? ⟨X, 0, none⟩ = some (.slice a zs.length c) ∧ W.cell? ⟨X, 1, none⟩ = some (.bool nt) := two_cells h.x
theorem TK.dr (h : TK w X a c zs nt W) (hd : Dr W W') : TK w X a c zs nt W' := h.later (hd.below _)
theorem TK.alloc (h : TK w X a c zs nt W) (o : Obj) : TK w X a c zs nt (W.alloc o) := h.later ((Below.refl _ W).alloc (Nat.le_refl _) o)
end
theorem TK.new {w W : World} {a : Option Addr} {c : Nat} {zs : List Int} {nt : Bool} (hl : Lies W W.heap.size 1 a zs.length (ints zs)) (hb : Below w.heap.size w W) :
    TK w W.heap.size a c zs nt (W.alloc (.cells #[.slice a zs.length c, .bool nt] 24)) :=
  ⟨heap_alloc_new W _, hl.later ((Below.refl _ W).alloc (Nat.le_refl _) _), hb.alloc hb.size _⟩
end Go.Proofs.YteiginpjahmppaaDoor
