/-
  A world in which the tables of unicode.SimpleFold are laid; the contract of impl.EqualFold. Conditions: the tables of unicode and unicode/utf8 are in memory.
-/
import Derived.Test.YtlgibcphfmjddaaDoorEqF
import Derived.Lib.LaidCaseMet
namespace Go.Proofs.YtlgibcphfmjddaaDoor
open Go.Lib Go.RowKit
set_option linter.unusedVariables false

noncomputable def laidWorldF (os : Os) : World :=
  let N := (World.settled Tryd.prog os).heap.size
  let w0 := World.holding Tryd.prog os ⟨#[.cells (orbitL.flatMap fun p => [Value.int .u16 (p.1 : Int), Value.int .u16 (p.2 : Int)]).toArray 114, .cells Lib.caseCells5 130], #[], []⟩
  let put (h : Array Obj) (g : Nat) (cs : Array Value) : Array Obj := h.modify g fun
    | .cells _ t frozen => .cells cs t frozen
    | o => o
  let h1 := put w0.heap 3 (Lib.firstTab.map fun z => Value.int .u8 z).toArray
  let h2 := put h1 4 ((List.range 16).flatMap fun i => [Value.int .u8 (Lib.accLo i), Value.int .u8 (Lib.accHi i)]).toArray
  let h3 := put h2 0 (asciiL.map fun z => Value.int .u16 z).toArray
  let h4 := put h3 1 #[.slice (some ⟨N, 0, none⟩) 94 94]
  let h5 := put h4 2 #[.slice (some ⟨N + 1, 0, none⟩) 336 336]
  { w0 with heap := h5 }
section
variable {P : Program} {w : World}
theorem laidVars_split : ∀ {l l' : List (String × DataW Unit)} {ps : List MemPlace}, DataW.LaidVars P w (l ++ l') ps → ∃ p p', DataW.LaidVars P w l p ∧ DataW.LaidVars P w l' p' ∧ ps = p ++ p'
  | [], l', ps, h => ⟨[], ps, rfl, h, rfl⟩
  | (n, d) :: r, l', ps, h => by
    obtain ⟨g, t, cs, fuel, p, q, h1, h2, h3, h4, h5, rfl⟩ := h
    obtain ⟨a, b, ha, hb, rfl⟩ := laidVars_split h5
    exact ⟨MemPlace.row ⟨g, 0, none⟩ cs.size ++ p ++ a, b, ⟨g, t, cs, fuel, p, a, h1, h2, h3, h4, ha, rfl⟩, hb, by simp [List.append_assoc]⟩
theorem laidMet_swap {A : List (String × DataW Unit)} {x y : String × DataW Unit} (h : laidMet P (A ++ [x] ++ [y]) w) : laidMet P (A ++ [y] ++ [x]) w := by
  obtain ⟨ps, hv, hn, hc⟩ := h
  obtain ⟨p1, p2, h1, h2, rfl⟩ := laidVars_split hv
  obtain ⟨p3, p4, h3, h4, rfl⟩ := laidVars_split h1
  have hp : (p3 ++ p2 ++ p4).Perm (p3 ++ p4 ++ p2) := by
    rw [List.append_assoc, List.append_assoc]
    exact List.Perm.append_left p3 List.perm_append_comm
  exact ⟨p3 ++ p2 ++ p4, LaidVars_append (LaidVars_append h3 h2) h4, hp.nodup_iff.2 hn, fun b off hm => hc b off (hp.mem_iff.1 hm)⟩
end
/-- the tables are laid in that world -/
theorem laidF_met (os : Os) (args : Array Value) : laidMet Tryd.prog [("unicode/utf8.acceptRanges", Rows.laid_unicode_utf8_acceptRanges), ("unicode.asciiFold", Rows.laid_unicode_asciiFold), ("unicode.caseOrbit", Rows.laid_unicode_caseOrbit), ("unicode.CaseRanges", Rows.laid_unicode_CaseRanges), ("unicode/utf8.first", Rows.laid_unicode_utf8_first)] ((laidWorldF os).forCall (fun _ _ => 0) ⟨#[], args, []⟩).memory := by
  rw [cas_is]
  exact laidMet_swap (A := [("unicode/utf8.acceptRanges", Rows.laid_unicode_utf8_acceptRanges), ("unicode.asciiFold", Rows.laid_unicode_asciiFold), ("unicode.caseOrbit", Rows.laid_unicode_caseOrbit)])
    (laidMet_with_case (ρ := caseRen) { Tryd.lays274 with } Tryd.underlying128 ⟨by kernel_rfl, by kernel_rfl, by kernel_rfl, by kernel_rfl, by kernel_rfl, by kernel_rfl⟩
      (l := [("unicode/utf8.acceptRanges", Rows.laid_unicode_utf8_acceptRanges), ("unicode.asciiFold", Rows.laid_unicode_asciiFold), ("unicode.caseOrbit", Rows.laid_unicode_caseOrbit), ("unicode/utf8.first", Rows.laid_unicode_utf8_first)])
      10 (by kernel_rfl) (by kernel_rfl) (by kernel_rfl) ((World.settled Tryd.prog default).heap.size + 1) 130 (of_decide_eq_true (by kernel_rfl)) (by kernel_rfl) (by kernel_rfl) (by kernel_rfl))
theorem impl_EqualFold (s t : ByteArray) (w : World) (hs : s.size ≤ 140737488351232) (ht : t.size ≤ 140737488351232) (hT : Tabs w) (hF : Folds w) :
    Calls Tryd.prog 30 #[.string s, .string t] w fun e w' => e = .returned (.bool (eqF s.data.toList t.data.toList)) ∧ Below w.heap.size w w' := by
  have C := Lib.hid (lib_EqualFold s t w hs ht hT hF)
  clear hT hF
  go_enter Tryd.func30, Tryd.ntmps30
  go_wp2_with fail
  refine C.out.mono ?_; rintro e w1 ⟨rfl, hb1⟩
  go_wp2_with fail
  go_ret
  exact ⟨rfl, hb1⟩
end Go.Proofs.YtlgibcphfmjddaaDoor
