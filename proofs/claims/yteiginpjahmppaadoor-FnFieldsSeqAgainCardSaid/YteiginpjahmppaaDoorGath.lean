/-
  The contract of the thin package's gathered: the list of what an iterator tells. Conditions: what the iterator tells is known, at most 2^40 texts.
-/
import Derived.Test.YteiginpjahmppaaDoorFeed
namespace Go.Proofs.YteiginpjahmppaaDoor
open Go.RowKit Go.Shelf
set_option linter.unusedVariables false
attribute [local go_sem] Oper.semAt_some

/-- what has been gathered: the box B holds a list of texts of the call's own -/
def GathI (n0 B : Nat) (pre : List ByteArray) (W : World) : Prop :=
  ∃ g c, Boxed W B 26 (.slice (some ⟨g, 0, none⟩) pre.length c) ∧ W.ownsRow n0 9 1 (.slice (some ⟨g, 0, none⟩) pre.length c) pre.length (strs pre)
theorem GathI.kept {n0 B : Nat} {pre : List ByteArray} {W W' : World} {row : Option Nat} (h : GathI n0 B pre W) (hg : W.grownBy W' row) (hr : ∀ r, row = some r → r < n0 ∧ r ≠ B ∨ ∃ o, W.heap[r]? = some o ∧ o.isCells = false) : GathI n0 B pre W' := by
  obtain ⟨g, c, h1, h2⟩ := h
  have hlt := h2.lt g rfl
  have hgc : ∃ cs t f, W.heap[g]? = some (.cells cs t f) := by
    rcases h2.2 with ⟨h, _⟩ | ⟨g', cap, cur, h, _, h3, _⟩
    · cases h
    · cases h; exact ⟨_, _, _, h3⟩
  refine ⟨g, c, h1.kept hg (fun e => ?_), h2.kept hg (.inr (fun e => ?_))⟩
  · rcases hr B e.symm with ⟨_, h⟩ | ⟨o, ho, hc⟩
    · exact h rfl
    · have := (show W.heap[B]? = _ from h1).symm.trans ho; cases this; cases hc
  · have e' : row = some g := e.symm
    rcases hr g e' with ⟨h, _⟩ | ⟨o, ho, hc⟩
    · omega
    · obtain ⟨cs, t, f, h3⟩ := hgc
      rw [h3] at ho; cases ho; cases hc

/-- a list of texts in new memory; what lay below b is as it was -/
def NewStrsB (l : List ByteArray) (b : Nat) (w : World) (e : Ending) (w' : World) : Prop :=
  ∃ g c, e = .returned (.slice (some ⟨g, 0, none⟩) l.length c) ∧ OwnStrs w' w.heap.size g l.length c l ∧ Below b w w'

set_option maxRecDepth 100000 in
set_option maxHeartbeats 2000000 in
theorem impl_gathered (gf : Nat) (lb : Array Value) (eg : ∀ args w, (callFunc gf args).run Tryd.prog w = .ok (.enter gf args) w) (xs : List ByteArray) (X : Nat → Prop) (b : Nat) (w : World) (hf : Feeds gf lb xs X w)
    (hX : ∀ r, X r → b ≤ r ∧ r < w.heap.size) (hb : b ≤ w.heap.size) (hn : xs.length ≤ 1099511627776) :
    Calls Tryd.prog 44 #[.func (.func gf) #[] lb] w (NewStrsB xs b w) := by
  obtain ⟨i0, hi, hz0, hz1, hz2⟩ := info_parts Tryd.infoStr
  refine (callsIn_wide (n := 4)).1 ?_
  refine callsIn_of_wp_marks Tryd.func44 rfl trivial ?_
  simp only [Tryd.ntmps44, List.size_toArray, List.length_cons, List.length_nil, Nat.reduceAdd, Nat.reduceSub, Array.replicate_succ, Array.replicate_zero, List.push_toArray, List.append_toArray, List.nil_append, List.cons_append]
  gi_wp2
  have hbx := Boxed.new (w.alloc (.cells #[] 9)) 26 (.slice (some ⟨w.heap.size, 0, none⟩) 0 0)
  have hrow : (w.alloc (.cells #[] 9)).ownsRow w.heap.size 9 1 (.slice (some ⟨w.heap.size, 0, none⟩) 0 0) 0 [] := World.ownsRow_lit w #[] 0 (Nat.le_refl _) (Nat.zero_le _) rfl
  have hrow2 := hrow.alloc (.cells #[.slice (some ⟨w.heap.size, 0, none⟩) 0 0] 26)
  have hB0 : Below w.heap.size w ((w.alloc (.cells #[] 9)).alloc (.cells #[.slice (some ⟨w.heap.size, 0, none⟩) 0 0] 26)) := ((Below.refl _ w).alloc (Nat.le_refl _) _).alloc (by simp) _
  rw [World.size_alloc] at hbx
  have hsz : ((w.alloc (.cells #[] 9)).alloc (.cells #[.slice (some ⟨w.heap.size, 0, none⟩) 0 0] 26)).heap.size = w.heap.size + 2 := by simp
  refine wpIn_feed (w0 := w) (by omega) (gf := gf) (lb := lb) rfl eg hf hB0 (fun r h => by have := hX r h; rw [hsz]; omega) rfl
    (fun pre W => GathI w.heap.size (w.heap.size + 1) pre W ∧ Below b w W)
    (fun s W W' row hs hg hr => ⟨hs.1.kept hg (fun r e => .inr (hr r e).2), hs.2.grown hg (Nat.le_trans hb (by have := hs.1; obtain ⟨g, c, h1, h2⟩ := this; have := (h2.lt g rfl); omega)) (fun k e => by have := (hr k e).1; rw [hsz] at this; omega)⟩)
    (fun s W W' row hs hg hr => ⟨hs.1.kept hg (fun r e => .inl ⟨(hX r (hr r e)).2, by have := (hX r (hr r e)).2; omega⟩), hs.2.grown hg (Nat.le_trans hb (by have := hs.1; obtain ⟨g, c, h1, h2⟩ := this; have := (h2.lt g rfl); omega)) (fun k e => (hX k (hr k e)).1)⟩)
    ⟨⟨w.heap.size, 0, hbx, hrow2⟩, hB0.mono hb⟩
    (fun x => { tmps := #[.func (.func gf) #[] lb, undef, .slice none 0 0, .pointer (some ⟨w.heap.size + 1, 0, none⟩), .string x, .slice (some ⟨w.heap.size, 0, none⟩) 0 0, .func (.func gf) #[] lb, .string x, undef, undef, undef, undef, undef], defers := [] }) ?assign ?body ?done
  case assign =>
    intro l x W K hK
    gi_wp2
    exact hK
  case body =>
    rintro l pre x W ⟨⟨g, c, hv, hro⟩, hBW⟩ hpx
    have hlen : pre.length + 1 ≤ xs.length := by have := hpx.length_le; simpa using this
    have hlt := hro.lt g rfl
    have hB1 := hv.lt
    have hvc := hv.cell
    clear hbx hrow hrow2
    gi_wp2_with (gi_at_builtin; refine wpListIn_append_own _ rfl _ _ 26 rfl w.heap.size 9 i0 (.string ⟨#[]⟩) 1 16 Tryd.underlying26 hi hz0 hz1 hz2 rfl (by decide) _ _ _ rfl (hro.alloc _) ⟨W.heap.size, 0, none⟩ 1 1 [.string x] rfl rfl (cell_one_new _ _ _) (str_one _) (by unfold maxLen; omega) (by omega) (by simp; omega) ?_; intro v' w1 hown' hgrow _; obtain ⟨g', cap', rfl⟩ := ownsRow_succ hown'; obtain ⟨hv1, hv2, hr2, hk2, hb2⟩ := hv.appended (by decide) hro (by omega) (by omega) hown' hgrow; have hc1 := hv1.cell; have hf1 := hv1.frozen)
    refine ⟨hk2.from _, hb2, ⟨g', cap', ?_, ?_⟩, hBW.trans (hb2.mono hb)⟩
    · simpa using hv2
    · simpa [strs] using hr2
  case done =>
    rintro D W hD ⟨⟨g, c, hv, hro⟩, hBW⟩ hK
    have hvc := hv.cell
    have hDs : w.heap.size + 2 ≤ D := by rw [hsz] at hD; exact hD
    gi_wp2
    refine ⟨by simp, .inl ⟨_, _, rfl, run_takeDeferred hK, ?_⟩⟩
    refine ⟨_, results_tmp rfl _ _ _, g, c, rfl, ?_, hBW.trans (put_below W _ (by omega))⟩
    exact ownsRow_putObj hro _ hK rfl
end Go.Proofs.YteiginpjahmppaaDoor
