/-
  The contracts of impl.Repeat (it recovers the library's panic) at the seat's numbers. Conditions: the result within one block of memory, or a count for which the library panics.
-/
import Derived.Test.YtlgibcphfmjddaaDoorBase
import Derived.Test.YtlgibcphfmjddaaDoorShelf
import Derived.Tactics2
import Derived.Defers
import Derived.Recover
import Derived.Laws.Pointers
namespace Go.Proofs.YtlgibcphfmjddaaDoor
open Go.RowKit
set_option linter.unusedVariables false

/-- two variables of one cell, laid one behind the other, later on -/
theorem two_vars {w w1 : World} {x y : Value} {t t' : TypeId} (hb : Below ((w.alloc (.cells #[x] t)).alloc (.cells #[y] t')).heap.size ((w.alloc (.cells #[x] t)).alloc (.cells #[y] t')) w1) :
    w1.cell? ⟨w.heap.size, 0, none⟩ = some x ∧ w1.cell? ⟨w.heap.size + 1, 0, none⟩ = some y ∧ w1.frozen? ⟨w.heap.size, 0, none⟩ = false ∧ w1.frozen? ⟨w.heap.size + 1, 0, none⟩ = false ∧ w.heap.size + 1 < w1.heap.size := by
  have hs := hb.size
  simp only [World.size_alloc] at hs
  refine ⟨?_, ?_, ?_, ?_, by omega⟩
  · rw [hb.cell (p := ⟨w.heap.size, 0, none⟩) (by simp only [World.size_alloc]; omega), World.cell?_alloc_past _ _ _ (by simp only [World.size_alloc]; omega), World.cell?_alloc_at _ _ _ _ rfl]; rfl
  · rw [hb.cell (p := ⟨w.heap.size + 1, 0, none⟩) (by simp only [World.size_alloc]; omega), World.cell?_alloc_at _ _ _ _ (by simp only [World.size_alloc])]; rfl
  · rw [hb.frozen (p := ⟨w.heap.size, 0, none⟩) (by simp only [World.size_alloc]; omega), World.frozen?_alloc_past _ _ _ (by simp only [World.size_alloc]; omega), World.frozen?_alloc_at _ _ _ _ rfl]
  · rw [hb.frozen (p := ⟨w.heap.size + 1, 0, none⟩) (by simp only [World.size_alloc]; omega), World.frozen?_alloc_at _ _ _ _ (by simp only [World.size_alloc])]

theorem two_set {w : World} {p q : Addr} {x y u v : Value} (hp : w.cell? p = some x) (hq : w.cell? q = some y) (h : p ≠ q) : ((w.setCell p u).setCell q v).cell? p = some u ∧ ((w.setCell p u).setCell q v).cell? q = some v := by
  have hq' : (w.setCell p u).cell? q = some y := by rw [World.cell?_setCell_other _ _ _ _ h]; exact hq
  refine ⟨?_, ?_⟩
  · rw [World.cell?_setCell_other _ _ _ _ (Ne.symm h)]; exact World.cell?_setCell_same _ _ _ hp
  · exact World.cell?_setCell_same _ _ _ hq'

theorem catch_panics (p q : Addr) (x y : Value) (u : TypeId) (pv : Value) (older : List PanicEntry) (w : World) (hc : w.cell? p = some x) (hz : w.frozen? p = false) (hd : w.cell? q = some y) (hy : w.frozen? q = false) (hpq : p ≠ q) :
    CallsD Tryd.prog 43 #[.pointer (some p), .pointer (some q)] (.panicking ({ v := .iface u pv, recovered := false } :: older)) w fun e u' w' =>
      e = .returned (.tuple #[]) ∧ u' = .panicking ({ v := .iface u pv, recovered := true } :: older) ∧ w' = (w.setCell p (.string ⟨#[]⟩)).setCell q (.bool false) := by
  refine callsD_of_wpS Tryd.func43 rfl fun c₀ cs hu => ?_
  apply wpS_seq
  apply wpS_region
  simp [wpOpsS, go_sem, recoverD, hu, Tryd.ntmps43, Exit.thenS]
  refine wpS_cond (t := true) (by simp [Act.eval, Array.replicate]) ?_
  simp only [if_true]
  apply wpS_seq
  apply wpS_region
  simp [wpOpsS, go_sem, hc, hz, Exit.thenS]
  have hd' : (w.setCell p (.string ⟨#[]⟩)).cell? q = some y := by rw [World.cell?_setCell_other _ _ _ _ hpq]; exact hd
  apply wpS_region
  simp [wpOpsS, go_sem, hd', hy, bodyPostS, results, Tryd.results43]

theorem catch_idle (p q : Addr) (w : World) :
    CallsD Tryd.prog 43 #[.pointer (some p), .pointer (some q)] .returning w fun e u' w' => e = .returned (.tuple #[]) ∧ u' = .returning ∧ w' = w := by
  refine callsD_of_wpS Tryd.func43 rfl fun c₀ cs hu => ?_
  apply wpS_seq
  apply wpS_region
  simp [wpOpsS, go_sem, recoverD, hu, Tryd.ntmps43, Exit.thenS]
  refine wpS_cond (t := false) (by simp [Act.eval, Array.replicate]) ?_
  simp only [Bool.false_eq_true, if_false]
  refine wpS_of_wp (wp_skip ?_)
  cases c₀
  simp_all [bodyPostS, results, Tryd.results43]
set_option maxRecDepth 100000 in
theorem impl_Repeat (s : ByteArray) (c : Nat) (w : World) (hc : c ≤ 9223372036854775807) (hlen : s.size * c ≤ 140737488355328) :
    Calls Tryd.prog 28 #[.string s, .int .i64 c] w fun e w' => e = .returned (.tuple #[.string ⟨(Lib.repeatL s.data.toList c).toArray⟩, .bool true]) ∧ Below w.heap.size w w' := by
  have hmf : ∀ (fn : Fn) (first cap : Array Value) (w : World), (Instr.makeFunc fn first cap).run Tryd.prog w = .ok (.func fn first cap) w := fun _ _ _ _ => rfl
  go_enter_defers Tryd.func28, Tryd.ntmps28
  go_wp2_with fail
  refine (Tryd.strings_Repeat s c _ hc hlen).mono ?_; rintro e w1 ⟨rfl, hb1⟩
  obtain ⟨hcp, hcq, hfp, hfq, hsz⟩ := two_vars hb1
  have B1 := Lib.hid ((((Below.refl _ w).alloc (Nat.le_refl _) _).alloc (by simp) _).trans (hb1.mono (by simp; omega)))
  clear hb1
  go_wp2_with fail
  refine leaves_cons (f := 43) (args := #[.pointer (some ⟨w.heap.size, 0, none⟩), .pointer (some ⟨w.heap.size + 1, 0, none⟩)]) (by simp) (by simp [go_sem]) ?_
  refine (catch_idle _ _ _).mono ?_
  rintro e u' w'' ⟨rfl, rfl, rfl⟩
  obtain ⟨k1, k2⟩ := two_set (u := .string ⟨(Lib.repeatL s.data.toList c).toArray⟩) (v := .bool true) hcp hcq (by simp)
  simp [Leaves, settle, results, Tryd.results28, go_sem, k1, k2]
  exact (B1.out.setCell (p := ⟨w.heap.size, 0, none⟩) (Nat.le_refl _) _).setCell (p := ⟨w.heap.size + 1, 0, none⟩) (Nat.le_succ _) _
set_option maxRecDepth 100000 in
theorem impl_Repeat_no (s : ByteArray) (c : Int) (w : World) (m : String) (hp : ∀ w, Calls Tryd.prog 44 #[.string s, .int .i64 c] w fun e w' => e = .panicked [{ v := .iface 9 (.string m.toUTF8), recovered := false }] ∧ w' = w) :
    Calls Tryd.prog 28 #[.string s, .int .i64 c] w fun e w' => e = .returned (.tuple #[.string ⟨#[]⟩, .bool false]) ∧ Below w.heap.size w w' := by
  have hmf : ∀ (fn : Fn) (first cap : Array Value) (w : World), (Instr.makeFunc fn first cap).run Tryd.prog w = .ok (.func fn first cap) w := fun _ _ _ _ => rfl
  have HP := Lib.hid hp; clear hp
  go_enter_defers Tryd.func28, Tryd.ntmps28
  go_wp2_with fail
  refine (HP.out _).mono ?_; rintro e w1 ⟨rfl, hw1⟩
  have hb1 : Below ((w.alloc (.cells #[.string ⟨#[]⟩] 9)).alloc (.cells #[.bool false] 4)).heap.size ((w.alloc (.cells #[.string ⟨#[]⟩] 9)).alloc (.cells #[.bool false] 4)) w1 := by rw [hw1]; exact Below.refl _ _
  obtain ⟨hcp, hcq, hfp, hfq, hsz⟩ := two_vars hb1
  have B1 := Lib.hid ((((Below.refl _ w).alloc (Nat.le_refl _) _).alloc (by simp) _).trans (hb1.mono (by simp; omega)))
  clear hb1 hw1
  go_wp2_with fail
  refine leaves_cons (f := 43) (args := #[.pointer (some ⟨w.heap.size, 0, none⟩), .pointer (some ⟨w.heap.size + 1, 0, none⟩)]) (by simp) (by simp [go_sem]) ?_
  refine (catch_panics _ _ _ _ _ _ [] _ hcp hfp hcq hfq (by simp)).mono ?_
  rintro e u' w'' ⟨rfl, rfl, rfl⟩
  obtain ⟨k1, k2⟩ := two_set (u := .string ⟨#[]⟩) (v := .bool false) hcp hcq (by simp)
  simp [Leaves, settle, results, Tryd.results28, go_sem, k1, k2]
  exact (B1.out.setCell (p := ⟨w.heap.size, 0, none⟩) (Nat.le_refl _) _).setCell (p := ⟨w.heap.size + 1, 0, none⟩) (Nat.le_succ _) _
end Go.Proofs.YtlgibcphfmjddaaDoor
