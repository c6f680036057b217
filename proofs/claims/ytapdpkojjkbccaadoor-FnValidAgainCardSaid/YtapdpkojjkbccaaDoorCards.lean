/-
  DERIVED. GIVEN WITH THE SEED: THE CARDS: each row of YtapdpkojjkbccaaDoorRows.lean that lists a variable, with what it lists TIED to the program's text (the seventh form; the later family's looks); each row that meets fmt, with fmt's text TOLD by the authors' own Lean function (tested against real Go, not proved from fmt's source: count such statements apart). THE CARD IS WHAT COUNTS. Prove the row's statement (the work); the ties are given (YtapdpkojjkbccaaDoorTie.lean); close each card by the builder's one call (the guide's Derived/Test/ToyasCard.lean, 'card_holds'). Laid BY PROGRAM, IN A SANDBOX (cutbox-door.mjs). By AI agents, Wed Nov 11 2026. No macro, syntax, notation, axiom, sorry.
-/
import Derived.Test.YtapdpkojjkbccaaDoorRows
import GoSem.ClaimSeven
namespace Go.Proofs.YtapdpkojjkbccaaDoor
namespace Rows

/-- THE TIED CARD OF 'laws.FnValidAgain'. -/
def fnValidAgainCard : Claim7 := { stood := { row := fnValidAgainRow, standIns := [], harness := (true, "79e297997ea550b69dae5cc902c88a5ce9f200c02097978d8a1aa53776fe497e"), looks := false }, kinds := [], alts := [], laidByText := true, laidKinds := [.data, .pinned], laidTests := true, laidLooks := .later }
def FnValidAgainCardSaid : Prop := Claim7.holds Tryd.pinned (.plain (OpenSpec.ofChange fnValidAgainSpec)) fnValidAgainCard

/-- THE TIED CARD OF 'laws.FnValidIs'. -/
def fnValidIsCard : Claim7 := { stood := { row := fnValidIsRow, standIns := [], harness := (true, "79e297997ea550b69dae5cc902c88a5ce9f200c02097978d8a1aa53776fe497e"), looks := false }, kinds := [], alts := [], laidByText := true, laidKinds := [.data, .pinned], laidTests := true, laidLooks := .later }
def FnValidIsCardSaid : Prop := Claim7.holds Tryd.pinned (.plain (OpenSpec.ofChange fnValidIsSpec)) fnValidIsCard

/-- THE SECOND FORM's CARD OF 'laws.FnValidAgain'. -/
def fnValidAgainUptoCard : Claim7 := { stood := { row := fnValidAgainUptoRow, standIns := [], harness := (true, "79e297997ea550b69dae5cc902c88a5ce9f200c02097978d8a1aa53776fe497e"), looks := false }, kinds := [], alts := [], laidByText := true, laidKinds := [.data, .pinned], laidTests := true, laidLooks := .later }
def FnValidAgainUptoCardSaid : Prop := Claim7.holds Tryd.pinned (.plain (OpenSpec.upto fnValidAgainSpec)) fnValidAgainUptoCard

/-- THE SECOND FORM's CARD OF 'laws.FnValidIs'. -/
def fnValidIsUptoCard : Claim7 := { stood := { row := fnValidIsUptoRow, standIns := [], harness := (true, "79e297997ea550b69dae5cc902c88a5ce9f200c02097978d8a1aa53776fe497e"), looks := false }, kinds := [], alts := [], laidByText := true, laidKinds := [.data, .pinned], laidTests := true, laidLooks := .later }
def FnValidIsUptoCardSaid : Prop := Claim7.holds Tryd.pinned (.plain (OpenSpec.upto fnValidIsSpec)) fnValidIsUptoCard
end Rows
end Go.Proofs.YtapdpkojjkbccaaDoor
