/-
  DERIVED. GIVEN WITH THE SEED: THE CARDS: each row of YtehjbmijbgonkaaDoorRows.lean that lists a variable, with what it lists TIED to the program's text (the seventh form; the later family's looks); each row that meets fmt, with fmt's text TOLD by the authors' own Lean function (tested against real Go, not proved from fmt's source: count such statements apart). THE CARD IS WHAT COUNTS. Prove the row's statement (the work); the ties are given (YtehjbmijbgonkaaDoorTie.lean); close each card by the builder's one call (the guide's Derived/Test/ToyasCard.lean, 'card_holds'). Laid BY PROGRAM, IN A SANDBOX (cutbox-door.mjs). By AI agents, Wed Nov 11 2026. No macro, syntax, notation, axiom, sorry.
-/
import Derived.Test.YtehjbmijbgonkaaDoorRows
import GoSem.ClaimSeven
namespace Go.Proofs.YtehjbmijbgonkaaDoor
namespace Rows

/-- THE TIED CARD OF 'laws.FnExactLastIndexFunc'. -/
def fnExactLastIndexFuncCard : Claim7 := { stood := { row := fnExactLastIndexFuncRow, standIns := [], harness := (true, "eb20144781eb87180f4674aaa55a3be9bdf62621d8ab9aa3bfcfd4b4152068c0"), looks := false }, kinds := [], alts := [], laidByText := true, laidKinds := [.data, .pinned], laidTests := true, laidLooks := .later }
def FnExactLastIndexFuncCardSaid : Prop := Claim7.holds Tryd.pinned (.plain (OpenSpec.ofChange fnExactLastIndexFuncSpec)) fnExactLastIndexFuncCard

/-- THE TIED CARD OF 'laws.FnExactTrimRightFunc'. -/
def fnExactTrimRightFuncCard : Claim7 := { stood := { row := fnExactTrimRightFuncRow, standIns := [], harness := (true, "eb20144781eb87180f4674aaa55a3be9bdf62621d8ab9aa3bfcfd4b4152068c0"), looks := false }, kinds := [], alts := [], laidByText := true, laidKinds := [.data, .pinned], laidTests := true, laidLooks := .later }
def FnExactTrimRightFuncCardSaid : Prop := Claim7.holds Tryd.pinned (.plain (OpenSpec.ofChange fnExactTrimRightFuncSpec)) fnExactTrimRightFuncCard

/-- THE TIED CARD OF 'laws.FnIndexFuncFirst'. -/
def fnIndexFuncFirstCard : Claim7 := { stood := { row := fnIndexFuncFirstRow, standIns := [], harness := (true, "eb20144781eb87180f4674aaa55a3be9bdf62621d8ab9aa3bfcfd4b4152068c0"), looks := false }, kinds := [], alts := [], laidByText := true, laidKinds := [.data, .pinned], laidTests := true, laidLooks := .later }
def FnIndexFuncFirstCardSaid : Prop := Claim7.holds Tryd.pinned (.plain (OpenSpec.ofChange fnIndexFuncFirstSpec)) fnIndexFuncFirstCard

/-- THE TIED CARD OF 'laws.FnExactTrimFunc'. -/
def fnExactTrimFuncCard : Claim7 := { stood := { row := fnExactTrimFuncRow, standIns := [], harness := (true, "eb20144781eb87180f4674aaa55a3be9bdf62621d8ab9aa3bfcfd4b4152068c0"), looks := false }, kinds := [], alts := [], laidByText := true, laidKinds := [.data, .pinned], laidTests := true, laidLooks := .later }
def FnExactTrimFuncCardSaid : Prop := Claim7.holds Tryd.pinned (.plain (OpenSpec.ofChange fnExactTrimFuncSpec)) fnExactTrimFuncCard

/-- THE TIED CARD OF 'laws.FnTrimFuncSides'. -/
def fnTrimFuncSidesCard : Claim7 := { stood := { row := fnTrimFuncSidesRow, standIns := [], harness := (true, "eb20144781eb87180f4674aaa55a3be9bdf62621d8ab9aa3bfcfd4b4152068c0"), looks := false }, kinds := [], alts := [], laidByText := true, laidKinds := [.data, .pinned], laidTests := true, laidLooks := .later }
def FnTrimFuncSidesCardSaid : Prop := Claim7.holds Tryd.pinned (.plain (OpenSpec.ofChange fnTrimFuncSidesSpec)) fnTrimFuncSidesCard

/-- THE TIED CARD OF 'laws.FnExactFieldsFuncSeq'. -/
def fnExactFieldsFuncSeqCard : Claim7 := { stood := { row := fnExactFieldsFuncSeqRow, standIns := [], harness := (true, "eb20144781eb87180f4674aaa55a3be9bdf62621d8ab9aa3bfcfd4b4152068c0"), looks := false }, kinds := [], alts := [], laidByText := true, laidKinds := [.data, .pinned], laidTests := true, laidLooks := .later }
def FnExactFieldsFuncSeqCardSaid : Prop := Claim7.holds Tryd.pinned (.plain (OpenSpec.ofChange fnExactFieldsFuncSeqSpec)) fnExactFieldsFuncSeqCard

/-- THE SECOND FORM's CARD OF 'laws.FnExactLastIndexFunc'. -/
def fnExactLastIndexFuncUptoCard : Claim7 := { stood := { row := fnExactLastIndexFuncUptoRow, standIns := [], harness := (true, "eb20144781eb87180f4674aaa55a3be9bdf62621d8ab9aa3bfcfd4b4152068c0"), looks := false }, kinds := [], alts := [], laidByText := true, laidKinds := [.data, .pinned], laidTests := true, laidLooks := .later }
def FnExactLastIndexFuncUptoCardSaid : Prop := Claim7.holds Tryd.pinned (.plain (OpenSpec.upto fnExactLastIndexFuncSpec)) fnExactLastIndexFuncUptoCard

/-- THE SECOND FORM's CARD OF 'laws.FnExactTrimRightFunc'. -/
def fnExactTrimRightFuncUptoCard : Claim7 := { stood := { row := fnExactTrimRightFuncUptoRow, standIns := [], harness := (true, "eb20144781eb87180f4674aaa55a3be9bdf62621d8ab9aa3bfcfd4b4152068c0"), looks := false }, kinds := [], alts := [], laidByText := true, laidKinds := [.data, .pinned], laidTests := true, laidLooks := .later }
def FnExactTrimRightFuncUptoCardSaid : Prop := Claim7.holds Tryd.pinned (.plain (OpenSpec.upto fnExactTrimRightFuncSpec)) fnExactTrimRightFuncUptoCard

/-- THE SECOND FORM's CARD OF 'laws.FnIndexFuncFirst'. -/
def fnIndexFuncFirstUptoCard : Claim7 := { stood := { row := fnIndexFuncFirstUptoRow, standIns := [], harness := (true, "eb20144781eb87180f4674aaa55a3be9bdf62621d8ab9aa3bfcfd4b4152068c0"), looks := false }, kinds := [], alts := [], laidByText := true, laidKinds := [.data, .pinned], laidTests := true, laidLooks := .later }
def FnIndexFuncFirstUptoCardSaid : Prop := Claim7.holds Tryd.pinned (.plain (OpenSpec.upto fnIndexFuncFirstSpec)) fnIndexFuncFirstUptoCard

/-- THE SECOND FORM's CARD OF 'laws.FnExactTrimFunc'. -/
def fnExactTrimFuncUptoCard : Claim7 := { stood := { row := fnExactTrimFuncUptoRow, standIns := [], harness := (true, "eb20144781eb87180f4674aaa55a3be9bdf62621d8ab9aa3bfcfd4b4152068c0"), looks := false }, kinds := [], alts := [], laidByText := true, laidKinds := [.data, .pinned], laidTests := true, laidLooks := .later }
def FnExactTrimFuncUptoCardSaid : Prop := Claim7.holds Tryd.pinned (.plain (OpenSpec.upto fnExactTrimFuncSpec)) fnExactTrimFuncUptoCard

/-- THE SECOND FORM's CARD OF 'laws.FnTrimFuncSides'. -/
def fnTrimFuncSidesUptoCard : Claim7 := { stood := { row := fnTrimFuncSidesUptoRow, standIns := [], harness := (true, "eb20144781eb87180f4674aaa55a3be9bdf62621d8ab9aa3bfcfd4b4152068c0"), looks := false }, kinds := [], alts := [], laidByText := true, laidKinds := [.data, .pinned], laidTests := true, laidLooks := .later }
def FnTrimFuncSidesUptoCardSaid : Prop := Claim7.holds Tryd.pinned (.plain (OpenSpec.upto fnTrimFuncSidesSpec)) fnTrimFuncSidesUptoCard

/-- THE SECOND FORM's CARD OF 'laws.FnExactFieldsFuncSeq'. -/
def fnExactFieldsFuncSeqUptoCard : Claim7 := { stood := { row := fnExactFieldsFuncSeqUptoRow, standIns := [], harness := (true, "eb20144781eb87180f4674aaa55a3be9bdf62621d8ab9aa3bfcfd4b4152068c0"), looks := false }, kinds := [], alts := [], laidByText := true, laidKinds := [.data, .pinned], laidTests := true, laidLooks := .later }
def FnExactFieldsFuncSeqUptoCardSaid : Prop := Claim7.holds Tryd.pinned (.plain (OpenSpec.upto fnExactFieldsFuncSeqSpec)) fnExactFieldsFuncSeqUptoCard
end Rows
end Go.Proofs.YtehjbmijbgonkaaDoor
