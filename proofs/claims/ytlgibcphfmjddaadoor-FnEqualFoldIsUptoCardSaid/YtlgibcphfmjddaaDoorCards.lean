/-
  DERIVED. GIVEN WITH THE SEED: THE CARDS: each row of YtlgibcphfmjddaaDoorRows.lean that lists a variable, with what it lists TIED to the program's text (the seventh form; the later family's looks); each row that meets fmt, with fmt's text TOLD by the authors' own Lean function (tested against real Go, not proved from fmt's source: count such statements apart). THE CARD IS WHAT COUNTS. Prove the row's statement (the work); the ties are given (YtlgibcphfmjddaaDoorTie.lean); close each card by the builder's one call (the guide's Derived/Test/ToyasCard.lean, 'card_holds'). Laid BY PROGRAM, IN A SANDBOX (cutbox-door.mjs). By AI agents, Wed Nov 11 2026. No macro, syntax, notation, axiom, sorry.
-/
import Derived.Test.YtlgibcphfmjddaaDoorRows
import GoSem.ClaimSeven
namespace Go.Proofs.YtlgibcphfmjddaaDoor
namespace Rows

/-- THE TIED CARD OF 'laws.FnExactMap'. -/
def fnExactMapCard : Claim7 := { stood := { row := fnExactMapRow, standIns := [], harness := (true, "33316b72c19faa1ba4442e3611ecbf12f8e83dc1efc6a4542f55a4e4588b7b02"), looks := false }, kinds := [], alts := [], laidByText := true, laidKinds := [.data, .pinned], laidTests := true, laidLooks := .later }
def FnExactMapCardSaid : Prop := Claim7.holds Tryd.pinned (.plain (OpenSpec.ofChange fnExactMapSpec)) fnExactMapCard

/-- THE TIED CARD OF 'laws.FnMapCount'. -/
def fnMapCountCard : Claim7 := { stood := { row := fnMapCountRow, standIns := [], harness := (true, "33316b72c19faa1ba4442e3611ecbf12f8e83dc1efc6a4542f55a4e4588b7b02"), looks := false }, kinds := [], alts := [], laidByText := true, laidKinds := [.data, .pinned], laidTests := true, laidLooks := .later }
def FnMapCountCardSaid : Prop := Claim7.holds Tryd.pinned (.plain (OpenSpec.ofChange fnMapCountSpec)) fnMapCountCard

/-- THE TIED CARD OF 'laws.FnMapSelf'. -/
def fnMapSelfCard : Claim7 := { stood := { row := fnMapSelfRow, standIns := [], harness := (true, "33316b72c19faa1ba4442e3611ecbf12f8e83dc1efc6a4542f55a4e4588b7b02"), looks := false }, kinds := [], alts := [], laidByText := true, laidKinds := [.data, .pinned], laidTests := true, laidLooks := .later }
def FnMapSelfCardSaid : Prop := Claim7.holds Tryd.pinned (.plain (OpenSpec.ofChange fnMapSelfSpec)) fnMapSelfCard

/-- THE TIED CARD OF 'laws.FnMapTwice'. -/
def fnMapTwiceCard : Claim7 := { stood := { row := fnMapTwiceRow, standIns := [], harness := (true, "33316b72c19faa1ba4442e3611ecbf12f8e83dc1efc6a4542f55a4e4588b7b02"), looks := false }, kinds := [], alts := [], laidByText := true, laidKinds := [.data, .pinned], laidTests := true, laidLooks := .later }
def FnMapTwiceCardSaid : Prop := Claim7.holds Tryd.pinned (.plain (OpenSpec.ofChange fnMapTwiceSpec)) fnMapTwiceCard

/-- THE TIED CARD OF 'laws.FnValidMap'. -/
def fnValidMapCard : Claim7 := { stood := { row := fnValidMapRow, standIns := [], harness := (true, "33316b72c19faa1ba4442e3611ecbf12f8e83dc1efc6a4542f55a4e4588b7b02"), looks := false }, kinds := [], alts := [], laidByText := true, laidKinds := [.data, .pinned], laidTests := true, laidLooks := .later }
def FnValidMapCardSaid : Prop := Claim7.holds Tryd.pinned (.plain (OpenSpec.ofChange fnValidMapSpec)) fnValidMapCard

/-- THE TIED CARD OF 'laws.FnFieldsFuncDrop'. -/
def fnFieldsFuncDropCard : Claim7 := { stood := { row := fnFieldsFuncDropRow, standIns := [], harness := (true, "33316b72c19faa1ba4442e3611ecbf12f8e83dc1efc6a4542f55a4e4588b7b02"), looks := false }, kinds := [], alts := [], laidByText := true, laidKinds := [.data, .pinned], laidTests := true, laidLooks := .later }
def FnFieldsFuncDropCardSaid : Prop := Claim7.holds Tryd.pinned (.plain (OpenSpec.ofChange fnFieldsFuncDropSpec)) fnFieldsFuncDropCard

/-- THE TIED CARD OF 'laws.FnRepeatMap'. -/
def fnRepeatMapCard : Claim7 := { stood := { row := fnRepeatMapRow, standIns := [], harness := (true, "33316b72c19faa1ba4442e3611ecbf12f8e83dc1efc6a4542f55a4e4588b7b02"), looks := false }, kinds := [], alts := [], laidByText := true, laidKinds := [.data, .pinned], laidTests := true, laidLooks := .later }
def FnRepeatMapCardSaid : Prop := Claim7.holds Tryd.pinned (.plain (OpenSpec.ofChange fnRepeatMapSpec)) fnRepeatMapCard

/-- THE TIED CARD OF 'laws.FnEqualFoldIs'. -/
def fnEqualFoldIsCard : Claim7 := { stood := { row := fnEqualFoldIsRow, standIns := [], harness := (true, "33316b72c19faa1ba4442e3611ecbf12f8e83dc1efc6a4542f55a4e4588b7b02"), looks := false }, kinds := [], alts := [], laidByText := true, laidKinds := [.data, .data, .data, .pinned, .pinned], laidTests := true, laidLooks := .later }
def FnEqualFoldIsCardSaid : Prop := Claim7.holds Tryd.pinned (.plain (OpenSpec.ofChange fnEqualFoldIsSpec)) fnEqualFoldIsCard

/-- THE TIED CARD OF 'laws.FnEqualFoldSame'. -/
def fnEqualFoldSameCard : Claim7 := { stood := { row := fnEqualFoldSameRow, standIns := [], harness := (true, "33316b72c19faa1ba4442e3611ecbf12f8e83dc1efc6a4542f55a4e4588b7b02"), looks := false }, kinds := [], alts := [], laidByText := true, laidKinds := [.data, .data, .data, .pinned, .pinned], laidTests := true, laidLooks := .later }
def FnEqualFoldSameCardSaid : Prop := Claim7.holds Tryd.pinned (.plain (OpenSpec.ofChange fnEqualFoldSameSpec)) fnEqualFoldSameCard

/-- THE TIED CARD OF 'laws.FnEqualFoldSum'. -/
def fnEqualFoldSumCard : Claim7 := { stood := { row := fnEqualFoldSumRow, standIns := [], harness := (true, "33316b72c19faa1ba4442e3611ecbf12f8e83dc1efc6a4542f55a4e4588b7b02"), looks := false }, kinds := [], alts := [], laidByText := true, laidKinds := [.data, .data, .data, .pinned, .pinned], laidTests := true, laidLooks := .later }
def FnEqualFoldSumCardSaid : Prop := Claim7.holds Tryd.pinned (.plain (OpenSpec.ofChange fnEqualFoldSumSpec)) fnEqualFoldSumCard

/-- THE TIED CARD OF 'laws.FnEqualFoldMap'. -/
def fnEqualFoldMapCard : Claim7 := { stood := { row := fnEqualFoldMapRow, standIns := [], harness := (true, "33316b72c19faa1ba4442e3611ecbf12f8e83dc1efc6a4542f55a4e4588b7b02"), looks := false }, kinds := [], alts := [], laidByText := true, laidKinds := [.data, .data, .data, .pinned, .pinned], laidTests := true, laidLooks := .later }
def FnEqualFoldMapCardSaid : Prop := Claim7.holds Tryd.pinned (.plain (OpenSpec.ofChange fnEqualFoldMapSpec)) fnEqualFoldMapCard

/-- THE SECOND FORM's CARD OF 'laws.FnExactMap'. -/
def fnExactMapUptoCard : Claim7 := { stood := { row := fnExactMapUptoRow, standIns := [], harness := (true, "33316b72c19faa1ba4442e3611ecbf12f8e83dc1efc6a4542f55a4e4588b7b02"), looks := false }, kinds := [], alts := [], laidByText := true, laidKinds := [.data, .pinned], laidTests := true, laidLooks := .later }
def FnExactMapUptoCardSaid : Prop := Claim7.holds Tryd.pinned (.plain (OpenSpec.upto fnExactMapSpec)) fnExactMapUptoCard

/-- THE SECOND FORM's CARD OF 'laws.FnMapCount'. -/
def fnMapCountUptoCard : Claim7 := { stood := { row := fnMapCountUptoRow, standIns := [], harness := (true, "33316b72c19faa1ba4442e3611ecbf12f8e83dc1efc6a4542f55a4e4588b7b02"), looks := false }, kinds := [], alts := [], laidByText := true, laidKinds := [.data, .pinned], laidTests := true, laidLooks := .later }
def FnMapCountUptoCardSaid : Prop := Claim7.holds Tryd.pinned (.plain (OpenSpec.upto fnMapCountSpec)) fnMapCountUptoCard

/-- THE SECOND FORM's CARD OF 'laws.FnMapSelf'. -/
def fnMapSelfUptoCard : Claim7 := { stood := { row := fnMapSelfUptoRow, standIns := [], harness := (true, "33316b72c19faa1ba4442e3611ecbf12f8e83dc1efc6a4542f55a4e4588b7b02"), looks := false }, kinds := [], alts := [], laidByText := true, laidKinds := [.data, .pinned], laidTests := true, laidLooks := .later }
def FnMapSelfUptoCardSaid : Prop := Claim7.holds Tryd.pinned (.plain (OpenSpec.upto fnMapSelfSpec)) fnMapSelfUptoCard

/-- THE SECOND FORM's CARD OF 'laws.FnMapTwice'. -/
def fnMapTwiceUptoCard : Claim7 := { stood := { row := fnMapTwiceUptoRow, standIns := [], harness := (true, "33316b72c19faa1ba4442e3611ecbf12f8e83dc1efc6a4542f55a4e4588b7b02"), looks := false }, kinds := [], alts := [], laidByText := true, laidKinds := [.data, .pinned], laidTests := true, laidLooks := .later }
def FnMapTwiceUptoCardSaid : Prop := Claim7.holds Tryd.pinned (.plain (OpenSpec.upto fnMapTwiceSpec)) fnMapTwiceUptoCard

/-- THE SECOND FORM's CARD OF 'laws.FnValidMap'. -/
def fnValidMapUptoCard : Claim7 := { stood := { row := fnValidMapUptoRow, standIns := [], harness := (true, "33316b72c19faa1ba4442e3611ecbf12f8e83dc1efc6a4542f55a4e4588b7b02"), looks := false }, kinds := [], alts := [], laidByText := true, laidKinds := [.data, .pinned], laidTests := true, laidLooks := .later }
def FnValidMapUptoCardSaid : Prop := Claim7.holds Tryd.pinned (.plain (OpenSpec.upto fnValidMapSpec)) fnValidMapUptoCard

/-- THE SECOND FORM's CARD OF 'laws.FnFieldsFuncDrop'. -/
def fnFieldsFuncDropUptoCard : Claim7 := { stood := { row := fnFieldsFuncDropUptoRow, standIns := [], harness := (true, "33316b72c19faa1ba4442e3611ecbf12f8e83dc1efc6a4542f55a4e4588b7b02"), looks := false }, kinds := [], alts := [], laidByText := true, laidKinds := [.data, .pinned], laidTests := true, laidLooks := .later }
def FnFieldsFuncDropUptoCardSaid : Prop := Claim7.holds Tryd.pinned (.plain (OpenSpec.upto fnFieldsFuncDropSpec)) fnFieldsFuncDropUptoCard

/-- THE SECOND FORM's CARD OF 'laws.FnRepeatMap'. -/
def fnRepeatMapUptoCard : Claim7 := { stood := { row := fnRepeatMapUptoRow, standIns := [], harness := (true, "33316b72c19faa1ba4442e3611ecbf12f8e83dc1efc6a4542f55a4e4588b7b02"), looks := false }, kinds := [], alts := [], laidByText := true, laidKinds := [.data, .pinned], laidTests := true, laidLooks := .later }
def FnRepeatMapUptoCardSaid : Prop := Claim7.holds Tryd.pinned (.plain (OpenSpec.upto fnRepeatMapSpec)) fnRepeatMapUptoCard

/-- THE SECOND FORM's CARD OF 'laws.FnEqualFoldIs'. -/
def fnEqualFoldIsUptoCard : Claim7 := { stood := { row := fnEqualFoldIsUptoRow, standIns := [], harness := (true, "33316b72c19faa1ba4442e3611ecbf12f8e83dc1efc6a4542f55a4e4588b7b02"), looks := false }, kinds := [], alts := [], laidByText := true, laidKinds := [.data, .data, .data, .pinned, .pinned], laidTests := true, laidLooks := .later }
def FnEqualFoldIsUptoCardSaid : Prop := Claim7.holds Tryd.pinned (.plain (OpenSpec.upto fnEqualFoldIsSpec)) fnEqualFoldIsUptoCard

/-- THE SECOND FORM's CARD OF 'laws.FnEqualFoldSame'. -/
def fnEqualFoldSameUptoCard : Claim7 := { stood := { row := fnEqualFoldSameUptoRow, standIns := [], harness := (true, "33316b72c19faa1ba4442e3611ecbf12f8e83dc1efc6a4542f55a4e4588b7b02"), looks := false }, kinds := [], alts := [], laidByText := true, laidKinds := [.data, .data, .data, .pinned, .pinned], laidTests := true, laidLooks := .later }
def FnEqualFoldSameUptoCardSaid : Prop := Claim7.holds Tryd.pinned (.plain (OpenSpec.upto fnEqualFoldSameSpec)) fnEqualFoldSameUptoCard

/-- THE SECOND FORM's CARD OF 'laws.FnEqualFoldSum'. -/
def fnEqualFoldSumUptoCard : Claim7 := { stood := { row := fnEqualFoldSumUptoRow, standIns := [], harness := (true, "33316b72c19faa1ba4442e3611ecbf12f8e83dc1efc6a4542f55a4e4588b7b02"), looks := false }, kinds := [], alts := [], laidByText := true, laidKinds := [.data, .data, .data, .pinned, .pinned], laidTests := true, laidLooks := .later }
def FnEqualFoldSumUptoCardSaid : Prop := Claim7.holds Tryd.pinned (.plain (OpenSpec.upto fnEqualFoldSumSpec)) fnEqualFoldSumUptoCard

/-- THE SECOND FORM's CARD OF 'laws.FnEqualFoldMap'. -/
def fnEqualFoldMapUptoCard : Claim7 := { stood := { row := fnEqualFoldMapUptoRow, standIns := [], harness := (true, "33316b72c19faa1ba4442e3611ecbf12f8e83dc1efc6a4542f55a4e4588b7b02"), looks := false }, kinds := [], alts := [], laidByText := true, laidKinds := [.data, .data, .data, .pinned, .pinned], laidTests := true, laidLooks := .later }
def FnEqualFoldMapUptoCardSaid : Prop := Claim7.holds Tryd.pinned (.plain (OpenSpec.upto fnEqualFoldMapSpec)) fnEqualFoldMapUptoCard
end Rows
end Go.Proofs.YtlgibcphfmjddaaDoor
