/-
  The tables of unicode.SimpleFold in memory, as the rows' lists of variables say; a world in which they are. No condition.
-/
import Derived.Test.YtlgibcphfmjddaaDoorFoldF
import Derived.Test.YtlgibcphfmjddaaDoorTabs
import Derived.Test.YtlgibcphfmjddaaDoorMem
import Derived.Lib.LaidCase
import Derived.Deep.SlicePairs
namespace Go.Proofs.YtlgibcphfmjddaaDoor
open Go.Lib Go.RowKit
set_option linter.unusedVariables false

/-- the variable unicode.caseOrbit -/
def OrbVar (w : World) : Prop := ∃ R oR cap, w.cell? ⟨1, 0, none⟩ = some (.slice (some ⟨R, oR, none⟩) orbitL.length cap) ∧
  ∀ i (hi : i < orbitL.length), w.cell? ⟨R, oR + i * 2, none⟩ = some (.int .u16 (orbitL[i].1 : Int)) ∧ w.cell? ⟨R, oR + i * 2 + 1, none⟩ = some (.int .u16 (orbitL[i].2 : Int))
structure Folds (w : World) : Prop where
  asc : ∀ r : Nat, r < 128 → w.cell? ⟨0, r, none⟩ = some (.int .u16 ((nx r : Nat) : Int))
  orb : OrbVar w
  cas : CaseVar 2 caseA w
theorem cell_below {w w' : World} {p : Addr} {v : Value} (h : w.cell? p = some v) (hb : Below w.heap.size w w') : w'.cell? p = some v := (hb.cell (World.block_lt_of_cell? w _ h)).trans h
theorem Folds.below {w w' : World} (h : Folds w) (hb : Below w.heap.size w w') : Folds w' := by
  refine ⟨fun r hr => cell_below (h.asc r hr) hb, ?_, ?_⟩
  · obtain ⟨R, oR, cap, h1, h2⟩ := h.orb
    exact ⟨R, oR, cap, cell_below h1 hb, fun i hi => ⟨cell_below (h2 i hi).1 hb, cell_below (h2 i hi).2 hb⟩⟩
  · obtain ⟨R, oR, cap, h1, h2⟩ := h.cas
    exact ⟨R, oR, cap, cell_below h1 hb, fun i hi => ⟨cell_below (h2 i hi).1 hb, cell_below (h2 i hi).2.1 hb, cell_below (h2 i hi).2.2.1 hb, cell_below (h2 i hi).2.2.2.1 hb, cell_below (h2 i hi).2.2.2.2 hb⟩⟩
theorem Folds.drewN {w : World} (h : Folds w) (q : Nat) : Folds (w.drewN q) := ⟨h.asc, h.orb, h.cas⟩

def orbData : DataW Unit := .slice (orbitL.map fun p => .agg [.lit (.int .u16 (p.1 : Int)), .lit (.int .u16 (p.2 : Int))]) []
theorem asc_is : (Rows.laid_unicode_asciiFold : DataW Unit) = Lib.tabData .u16 asciiL := by kernel_rfl
theorem orb_is : (Rows.laid_unicode_caseOrbit : DataW Unit) = orbData := by kernel_rfl
theorem cas_is : Rows.laid_unicode_CaseRanges = Lib.caseData := by kernel_rfl
def caseRen : Go.Shelf.Ren := ⟨Tryd.lays274_ren.f, Tryd.lays274_ren.t, fun | 13 => 2 | n => n⟩
theorem orbVar_of_reads {w : World} (h : VarReads Tryd.prog w "unicode.caseOrbit" orbData) : OrbVar w := by
  obtain ⟨g, t, cs, fuel, p, hg, hty, hvar, hd⟩ := h
  obtain rfl : g = 1 := (Option.some.inj ((show Tryd.prog.globalNamed "unicode.caseOrbit" = some 1 by kernel_rfl).symm.trans hg)).symm
  obtain rfl : t = 112 := (Option.some.inj ((show (Tryd.prog.globals[1]?).map (·.type) = some 112 by kernel_rfl).symm.trans hty)).symm
  have hl94 : orbitL.length = 94 := by kernel_rfl
  rcases Deep.open_slice_pairs Tryd.underlying112 Tryd.underlying114 (by kernel_rfl) rfl rfl (by kernel_rfl) (by kernel_rfl) hd with ⟨_, hx⟩ | ⟨a, len, cap, m, n, V0, V1, D0, D1, P0, P1, hcs, hb, hl, hm, hmm, hx, hc⟩
  · exact absurd (congrArg Prod.fst hx) (by unfold orbData; intro h; cases h)
  · have e0 := congrArg Prod.fst hx
    simp only [orbData, DataW.slice.injEq] at e0
    obtain ⟨eE, eR⟩ := e0
    have hlen : len = orbitL.length := by have := congrArg List.length eE; simpa using this.symm
    have hlm : len ≤ m := by rw [hmm]; split <;> omega
    have each : ∀ i (hi : i < orbitL.length), w.cell? (a.add (i * 2)) = some (.int .u16 (orbitL[i].1 : Int)) ∧ w.cell? (a.add (i * 2 + 1)) = some (.int .u16 (orbitL[i].2 : Int)) := by
      intro i hi
      obtain ⟨k0, k1, t0, t1⟩ := hc i (by omega)
      have := congrArg (·[i]?) eE
      simp only [List.getElem?_map, List.getElem?_eq_getElem hi, Option.map_some, List.getElem?_range (show i < len by omega), Option.some.injEq] at this
      simp only [DataW.agg.injEq, List.cons.injEq, and_true] at this
      obtain ⟨d0, d1⟩ := this
      obtain ⟨n0, e0, x0, _⟩ := DataW.trod_int Tryd.underlying110 t0
      obtain ⟨n1, e1, x1, _⟩ := DataW.trod_int Tryd.underlying110 t1
      simp only [List.cons.injEq, and_true] at e0 e1
      have x0 := congrArg Prod.fst x0
      have x1 := congrArg Prod.fst x1
      simp only at x0 x1
      rw [← d0] at x0
      rw [← d1] at x1
      simp only [DataW.lit.injEq, Lit.int.injEq, true_and] at x0 x1
      rw [k0, k1, e0, e1, x0, x1]
      exact ⟨rfl, rfl⟩
    obtain ⟨R, oR, sR⟩ := a
    have h0 := (each 0 (by omega)).1
    simp only [Nat.zero_mul] at h0
    rw [show (⟨R, oR, sR⟩ : Addr).add 0 = ⟨R, oR, sR⟩ by simp [Addr.add]] at h0
    cases sR with
    | some s => have := World.cell?_spot h0; simp at this
    | none =>
      have ea : ∀ j, (⟨R, oR, none⟩ : Addr).add j = ⟨R, oR + j, none⟩ := fun j => by unfold Addr.add; by_cases h : j = 0 <;> simp [h]
      refine ⟨R, oR, cap, ?_, fun i hi => ?_⟩
      · rw [World.var?_cell hg hvar 0, ← Array.getElem?_toList, hcs, hlen]; rfl
      · have := each i hi
        rw [ea, ea] at this
        exact this
theorem folds_of {W : World} {l : List (String × DataW Unit)} (h : laidMet Tryd.prog l W) (h1 : ("unicode.asciiFold", Rows.laid_unicode_asciiFold) ∈ l) (h2 : ("unicode.caseOrbit", Rows.laid_unicode_caseOrbit) ∈ l) (h3 : ("unicode.CaseRanges", Rows.laid_unicode_CaseRanges) ∈ l) : Folds W := by
  rw [asc_is] at h1
  rw [orb_is] at h2
  rw [cas_is] at h3
  refine ⟨?_, orbVar_of_reads (Lib.laidMet.reads h h2), caseVar_of_reads (ρ := caseRen) { Tryd.lays274 with } Tryd.underlying128 ⟨by kernel_rfl, by kernel_rfl, by kernel_rfl, by kernel_rfl, by kernel_rfl, by kernel_rfl⟩ (Lib.laidMet.reads h h3)⟩
  obtain ⟨g, t, cs, fuel, p, hg, hty, hvar, hd⟩ := Lib.laidMet.reads h h1
  obtain rfl : g = 0 := (Option.some.inj ((show Tryd.prog.globalNamed "unicode.asciiFold" = some 0 by kernel_rfl).symm.trans hg)).symm
  obtain rfl : t = 111 := (Option.some.inj ((show (Tryd.prog.globals[0]?).map (·.type) = some 111 by kernel_rfl).symm.trans hty)).symm
  have hcs := cells_of_tab Tryd.underlying111 Tryd.underlying110 (by kernel_rfl) (by kernel_rfl) hd
  intro r hr
  rw [World.var?_cell hg hvar r, ← Array.getElem?_toList, hcs, List.getElem?_map, asc_hit hr]
  rfl
end Go.Proofs.YtlgibcphfmjddaaDoor
