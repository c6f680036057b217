/-
  The law of a range over a function whose body never leaves the loop, for an iterator that may write into blocks of its own. Conditions: what the iterator tells is known.
-/
import Derived.Test.YteiginpjahmppaaDoorTexts
import Derived.RangeFuncNested
import Derived.RangeFuncBound
import Derived.RangeFuncCalls
import Derived.RangeFuncLeaves
import Derived.Shelf.Abstract
import Derived.Shelf.RegionOpen
import Derived.OwnWalkIn
import Derived.TacticsInMore
import Derived.LoopNIn
import Derived.LoopIn
import Derived.Maps.AppendAt
namespace Go.Proofs.YteiginpjahmppaaDoor
open Go.RowKit Go.Shelf
set_option linter.unusedVariables false

/-- what is said of lists and worlds stays where blocks are new, and where one of the blocks X is written -/
def Abide (X : Nat → Prop) (J : List ByteArray → World → Prop) : Prop :=
  ∀ s W W' row, J s W → W.grownBy W' row → (∀ r, row = some r → X r) → J s W'
theorem Abide.below {X : Nat → Prop} {J : List ByteArray → World → Prop} (h : Abide X J) {s : List ByteArray} {W W' : World} (hs : J s W) (hb : Below W.heap.size W W') : J s W' :=
  h s W W' none hs ⟨hb.os, hb.tape, hb.output, hb.size, fun q hq _ => hb.block q hq⟩ (fun r e => by cases e)
theorem Abide.alloc {X : Nat → Prop} {J : List ByteArray → World → Prop} (h : Abide X J) {s : List ByteArray} {W : World} (hs : J s W) (o : Obj) : J s (W.alloc o) :=
  h s W _ none hs (World.grownBy_alloc W o none) (fun r e => by cases e)
theorem Abide.set {X : Nat → Prop} {J : List ByteArray → World → Prop} (h : Abide X J) {s : List ByteArray} {W : World} {b : Nat} (hs : J s W) (hb : X b) (v : Value) : J s (W.setCell ⟨b, 0, none⟩ v) :=
  h s W _ (some b) hs (grownBy_setCell' W b v) (fun r e => by cases e; exact hb)
/-- an iterator that tells just the texts xs, one by one; X: the blocks of its own that it writes -/
def Feeds (gf : Nat) (lb : Array Value) (xs : List ByteArray) (X : Nat → Prop) (w : World) : Prop :=
  ∀ (n l : Nat) (J : List ByteArray → World → Prop) (W : World), Below w.heap.size w W → Abide X J →
    (∀ pre x W1, J pre W1 → pre ++ [x] <+: xs → YieldAt Fence.wide (n - 1) Tryd.prog l #[.string x] W1 fun e W' => e = .returned (.bool true) ∧ J (pre ++ [x]) W' ∧ Below w.heap.size W1 W') →
    J [] W → CallsIn Fence.wide n Tryd.prog gf (#[.func (.yield l) #[] #[]] ++ lb) W fun e W' => (∃ v, e = .returned v) ∧ J xs W'
/-- how a round's body ends: it goes on -/
def feedPost (B b : Nat) (I : List ByteArray → World → Prop) (ys : List ByteArray) (W : World) : Exit → Act → World → Prop
  | .normal, _, W' => KeepsFrom B W W' ∧ Below b W W' ∧ I ys W'
  | _, _, _ => False
theorem put_below {b l : Nat} (W : World) (o : Obj) (h : b ≤ l) : Below b W (W.putObj l o) :=
  ⟨rfl, rfl, rfl, by simp, fun k hk => World.putObj_heap_other (by omega)⟩

theorem wpIn_feed {n : Nat} {g : Operand} {ps : Array Tmp} {assign body : Code} {Q : Exit → Act → World → Prop} {a : Act} {w w0 : World} (h1 : 1 ≤ n) {gf : Nat} {lb : Array Value}
    (hg : a.eval g = .func (.func gf) #[] lb) (eg : ∀ args w, (callFunc gf args).run Tryd.prog w = .ok (.enter gf args) w) {xs : List ByteArray} {X : Nat → Prop}
    (hseq : Feeds gf lb xs X w0) (hb0 : Below w0.heap.size w0 w) (hX : ∀ r, X r → r < w.heap.size) (hps : ps.size = 1)
    (I : List ByteArray → World → Prop) (hI : OwnFrom w.heap.size I) (hIX : Abide X I) (h0 : I [] w) (a₁ : ByteArray → Act)
    (hassign : ∀ (l : Nat) (x : ByteArray) (W : World) (K : Act → World → Prop), K (a₁ x) W →
      assign.wpIn (Fence.wide.inRound l) (n - 1 - 1) Tryd.prog (Exit.then K (fun _ _ _ => False)) { tmps := (ps.zip #[Value.string x]).foldl (fun t (p, v) => t.setIfInBounds p v) a.tmps, defers := [] } W)
    (hbody : ∀ (l : Nat) (pre : List ByteArray) (x : ByteArray) (W : World), I pre W → pre ++ [x] <+: xs → body.wpIn (Fence.wide.inRound l) (n - 1 - 1) Tryd.prog (feedPost w.heap.size w0.heap.size I (pre ++ [x]) W) (a₁ x) W)
    (hdone : ∀ (D : Nat) (W : World), w.heap.size ≤ D → I xs W → W.heap[D]? = some (.deferred (some [])) → Q .normal { a with defers := { target := .collected D, args := #[] } :: a.defers } W) :
    (Code.rangeFunc g ps assign body).wpIn Fence.wide n Tryd.prog Q a w := by
  refine wpIn_rangeFunc ?_
  intro fn hfn
  obtain ⟨rec, hrec⟩ : ∃ rec : LoopState → Loop, rec = fun st => { state := st, pending := none, fn, tmps := a.tmps, params := ps, assign, body, defers := w.heap.size } := ⟨_, rfl⟩
  obtain ⟨W1, hW1⟩ : ∃ W1, (w.alloc (.deferred (some []))).alloc (.loop (rec .ready)) = W1 := ⟨_, rfl⟩
  have hL1 : W1.heap[w.heap.size + 1]? = some (.loop (rec .ready)) := by
    rw [← hW1]; have := World.alloc_heap_new (w.alloc (.deferred (some []))) (.loop (rec .ready)); rwa [World.size_alloc] at this
  have hD1 : W1.heap[w.heap.size]? = some (.deferred (some [])) := by
    rw [← hW1]; exact (Below.heap_alloc _ _ _ (by simp)).trans (World.alloc_heap_new w _)
  have hI1 : I [] W1 := by rw [← hW1]; exact hI.alloc _ (hI.alloc _ h0)
  have hb1 : Below w0.heap.size w0 W1 := by
    rw [← hW1]; exact hb0.trans ((((Below.refl _ w).alloc (Nat.le_refl _) _).alloc (by simp) _).mono hb0.size)
  refine ⟨w.heap.size + 1, [{ target := .collected w.heap.size, args := #[] }], W1, { target := .fn (.func gf) lb, args := #[.func (.yield (w.heap.size + 1)) #[] #[]] }, W1, gf,
    #[.func (.yield (w.heap.size + 1)) #[] #[]] ++ lb, W1, ?_, ?_, fun _ _ => trivial, ?_, fun _ => h1, ?_⟩
  · rw [← hW1, hrec]; exact run_enterLoop_outer _ _ _ _ _
  · simp only [resolve, hg]
    simp [go_sem]
  · simp [invoke, go_sem, eg]
  refine (hseq (n - 1) (w.heap.size + 1) (fun pre W => I pre W ∧ W.heap[w.heap.size + 1]? = some (.loop (rec .ready)) ∧ W.heap[w.heap.size]? = some (.deferred (some []))) W1 hb1 ?_ ?_ ⟨hI1, hL1, hD1⟩).mono ?_
  · rintro s A B row ⟨hi, hl, hd⟩ hgr hr
    have hk : ∀ q o, w.heap.size ≤ q → A.heap[q]? = some o → B.heap[q]? = some o := fun q o hq ho =>
      (hgr.block q (Array.getElem?_eq_some_iff.1 ho).1 (fun e => by have := hX q (hr q e.symm); omega)).trans ho
    exact ⟨hIX s A B row hi hgr hr, hk _ _ (by omega) hl, hk _ _ (Nat.le_refl _) hd⟩
  · rintro pre x W ⟨hi, hl, hd⟩ hpx
    have hlt : w.heap.size + 1 < W.heap.size := (Array.getElem?_eq_some_iff.1 hl).1
    have hy := run_yield (P := Tryd.prog) (args := #[Value.string x]) hl (by rw [hrec]; exact hps.symm)
    rw [hrec] at hy
    refine ⟨fn, _, assign, body, hy, roundIn_of_wpIn hfn (hassign _ x W _ ?_)⟩
    clear hy
    refine ⟨_, run_beginRound hl (by rw [hrec]), ?_⟩
    have hl2 : (W.putObj (w.heap.size + 1) (.loop { rec .ready with state := .busy })).heap[w.heap.size + 1]? = some (.loop { rec .ready with state := .busy }) := World.putObj_heap_same hlt
    have hd2 : (W.putObj (w.heap.size + 1) (.loop { rec .ready with state := .busy })).heap[w.heap.size]? = some (.deferred (some [])) := (World.putObj_heap_other (by omega)).trans hd
    refine wpIn_mono (hbody _ pre x _ (hI.putObj _ hi (by omega) hl rfl) hpx) ?_
    rintro e a3 W3 hp
    cases e with
    | normal =>
      obtain ⟨hk3, hb3, hi3⟩ := hp
      have hl3 := hk3.same _ _ (by omega) hl2 rfl
      have hd3 := hk3.same _ _ (Nat.le_refl _) hd2 rfl
      have hr := run_endRound (P := Tryd.prog) none hl3
      refine ⟨_, _, hr, rfl, ⟨hI.putObj _ hi3 (by omega) hl3 rfl, ?_, (World.putObj_heap_other (by omega)).trans hd3⟩, ?_⟩
      · rw [World.putObj_heap_same (Array.getElem?_eq_some_iff.1 hl3).1, hrec]; rfl
      · have hw : w0.heap.size ≤ w.heap.size + 1 := by have := hb0.size; omega
        exact ((put_below W _ hw).trans hb3).trans (put_below W3 _ hw)
    | ret => exact hp.elim
    | exit id => exact hp.elim
    | goto t => exact hp.elim
    | panic ch => exact hp.elim
    | outgrown => exact hp.elim
  · rintro e W2 ⟨⟨v, rfl⟩, hi, hl, hd⟩
    exact ⟨none, _, by have := run_endLoop (P := Tryd.prog) hl (by rw [hrec]; simp); rw [hrec] at this; exact this, hdone _ _ (Nat.le_refl _) (hI.putObj _ hi (by omega) hl rfl) ((World.putObj_heap_other (by omega)).trans hd)⟩
end Go.Proofs.YteiginpjahmppaaDoor
