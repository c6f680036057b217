/-
  What the rows' lists of variables say of memory: the tables of unicode/utf8 are as their initialisers lay them; a world in which they are. No condition.
-/
import Derived.Test.YteiginpjahmppaaDoorRows
import Derived.Test.YteiginpjahmppaaDoorShelf
import Derived.Lib.LaidU8
import Derived.Below
import Derived.Deep.DeepHandedRow
import Derived.Shelf.Unicode.DecodeSlow
import Derived.Shelf.Unicode.PredsPay
import Derived.Shelf.Strings.TrimSpaceAny
namespace Go.Proofs.YteiginpjahmppaaDoor
open Go.Lib Go.RowKit
set_option linter.unusedVariables false

/-- the tables of unicode/utf8, in memory -/
def Tabs (w : World) : Prop := Lib.Utf8Tabs 2 3 w
theorem Tabs.below {w w' : World} (h : Tabs w) (hb : Below w.heap.size w w') : Tabs w' := Utf8Tabs_below h hb
theorem first_is : Rows.laid_unicode_utf8_first = Lib.firstData := by kernel_rfl
theorem accept_is : Rows.laid_unicode_utf8_acceptRanges = Lib.acceptData := by kernel_rfl
theorem tabs_of {W : World} {l : List (String × DataW Unit)} (h : laidMet Tryd.prog l W) (h1 : ("unicode/utf8.first", Rows.laid_unicode_utf8_first) ∈ l) (h2 : ("unicode/utf8.acceptRanges", Rows.laid_unicode_utf8_acceptRanges) ∈ l) : Tabs W := by
  rw [first_is] at h1
  rw [accept_is] at h2
  exact utf8Tabs_of_reads (ρ := Tryd.lays197_ren) { Tryd.lays197 with } ⟨by kernel_rfl, by kernel_rfl, by kernel_rfl, by kernel_rfl, by kernel_rfl, by kernel_rfl, by kernel_rfl⟩ (Lib.laidMet.reads h h1) (Lib.laidMet.reads h h2)
/-- the tables of white space, in memory -/
def Spaces (w : World) : Prop := Lib.TabIs Tryd.prog w "strings.asciiSpace" .u8 Lib.asciiSpaceTab ∧ Lib.WhiteTab 1 w
theorem Spaces.below {w w' : World} (h : Spaces w) (hb : Below w.heap.size w w') : Spaces w' := ⟨TabIs_below (g := 0) (by kernel_rfl) h.1 hb, WhiteTab_below h.2 hb⟩
theorem ascii_is : (Rows.laid_strings_asciiSpace : DataW Unit) = Lib.tabData .u8 Lib.asciiSpaceTab := by kernel_rfl
theorem white_is : (Rows.laid_unicode_White_Space : DataW Unit) = Lib.whiteData := by kernel_rfl
theorem spaces_of {W : World} {l : List (String × DataW Unit)} (h : laidMet Tryd.prog l W) (h1 : ("strings.asciiSpace", Rows.laid_strings_asciiSpace) ∈ l) (h2 : ("unicode.White_Space", Rows.laid_unicode_White_Space) ∈ l) : Spaces W := by
  rw [ascii_is] at h1
  rw [white_is] at h2
  refine ⟨?_, whiteTab_of_reads (ρ := Tryd.lays199_ren) { Tryd.lays199 with } ⟨by kernel_rfl, by kernel_rfl, by kernel_rfl, by kernel_rfl, by kernel_rfl, by kernel_rfl, by kernel_rfl, by kernel_rfl⟩ (Lib.laidMet.reads h h2)⟩
  obtain ⟨g, t, cs, fuel, p, hg, hty, hvar, hd⟩ := Lib.laidMet.reads h h1
  obtain rfl : g = 0 := (Option.some.inj ((show Tryd.prog.globalNamed "strings.asciiSpace" = some 0 by kernel_rfl).symm.trans hg)).symm
  obtain rfl : t = 61 := (Option.some.inj ((show (Tryd.prog.globals[0]?).map (·.type) = some 61 by kernel_rfl).symm.trans hty)).symm
  have hcs := cells_of_tab Tryd.underlying61 Tryd.underlying5 (by kernel_rfl) (by kernel_rfl) hd
  unfold Lib.TabIs
  rw [hvar, ← hcs]
/-- a world in which the tables are laid -/
noncomputable def laidWorld (os : Os) : World :=
  let N := (World.settled Tryd.prog os).heap.size
  let w0 := World.holding Tryd.prog os ⟨#[.cells ((List.range 21).map fun i => Value.int .u16 (Lib.whiteT.getD i 0)).toArray 87, .cells #[.slice (some ⟨N, 0, none⟩) 7 7, .slice none 0 0, .int .i64 2] 84], #[], []⟩
  let put (h : Array Obj) (g : Nat) (cs : Array Value) : Array Obj := h.modify g fun
    | .cells _ t frozen => .cells cs t frozen
    | o => o
  let h1 := put w0.heap 2 (Lib.firstTab.map fun z => Value.int .u8 z).toArray
  let h2 := put h1 3 ((List.range 16).flatMap fun i => [Value.int .u8 (Lib.accLo i), Value.int .u8 (Lib.accHi i)]).toArray
  let h3 := put h2 0 (Lib.asciiSpaceTab.map fun z => Value.int .u8 z).toArray
  let h4 := put h3 1 #[.pointer (some ⟨N + 1, 0, none⟩)]
  { w0 with heap := h4 }
end Go.Proofs.YteiginpjahmppaaDoor
