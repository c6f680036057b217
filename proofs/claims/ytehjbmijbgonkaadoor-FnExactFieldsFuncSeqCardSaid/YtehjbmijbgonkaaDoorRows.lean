/-
  NARROWER THAN 'FOR EVERY INPUT', by the rows' own cells (each row's printed sentence says how): FnExactLastIndexFunc: laid · FnExactTrimRightFunc: laid · FnIndexFuncFirst: laid · FnExactTrimFunc: laid · FnTrimFuncSides: laid · FnExactFieldsFuncSeq: laid.
  DERIVED. THE GIVEN ROWS OF THIS SEAT. 6 by the template 'for every input the law returns true; each argument reads behind the call as it read before'; 0 by the template 'total and deterministic' (their statements: YtehjbmijbgonkaaDoorTotals.lean).
  GIVEN WITH THE SEED: the statements are not yours to turn. If you find one false, say at which input.
  Laid BY PROGRAM, IN A SANDBOX (cutbox-rows.mjs): the forced cells as the released guide's own fill.sh prints them over the translation 9e48f3fd064dec43… (all of the seat's roots in one cut). By AI agents, Wed Nov 11 2026. No macro, syntax, notation, axiom, sorry.
-/
import Derived.Test.YtehjbmijbgonkaaDoorChecked
import GoSem.PinnedTables
import GoSem.Claim
import GoSem.ClaimJoined
import GoSem.ClaimMapViews
import Derived.JoinedTies
import Derived.KernelRfl
namespace Go.Proofs.YtehjbmijbgonkaaDoor
/- THE CELL 'sum', in the pinned program and in every row, IS THE sha256 OF THE DUMP (.gsa) THAT YtehjbmijbgonkaaDoorProg.lean LOADS. Nothing in Lean hashes anything: it is a label: what it is worth is what the hold of that sum in a sandbox is worth. -/
noncomputable def Tryd.pinned : Pinned := { name := "ytehjbmijbgonkaadoor", sum := "9e48f3fd064dec43d677754a0f40b46e4bbb4a9e207cbb3ad683d367877b29de", checked := Tryd.checked }
namespace Rows
def none {H : Type} : Left H := { results := [], args := [] }

/- WHAT THE LISTED PACKAGE-LEVEL VARIABLES READ AS WHEN THE CALL BEGINS. Each datum BY PROGRAM (the guide's laid-datum.mjs) off the statement by which the dump's own 'gosem.cut.vars' lays the variable. In a bare row this is a premise. The card (YtehjbmijbgonkaaDoorCards.lean) ties it to the program's text. -/
def laid_unicode_utf8_acceptRanges {H : Type} : DataW H := .agg [.agg [.lit (.int .u8 128), .lit (.int .u8 191)], .agg [.lit (.int .u8 160), .lit (.int .u8 191)], .agg [.lit (.int .u8 128), .lit (.int .u8 159)], .agg [.lit (.int .u8 144), .lit (.int .u8 191)], .agg [.lit (.int .u8 128), .lit (.int .u8 143)], .agg [.lit (.int .u8 0), .lit (.int .u8 0)], .agg [.lit (.int .u8 0), .lit (.int .u8 0)], .agg [.lit (.int .u8 0), .lit (.int .u8 0)], .agg [.lit (.int .u8 0), .lit (.int .u8 0)], .agg [.lit (.int .u8 0), .lit (.int .u8 0)], .agg [.lit (.int .u8 0), .lit (.int .u8 0)], .agg [.lit (.int .u8 0), .lit (.int .u8 0)], .agg [.lit (.int .u8 0), .lit (.int .u8 0)], .agg [.lit (.int .u8 0), .lit (.int .u8 0)], .agg [.lit (.int .u8 0), .lit (.int .u8 0)], .agg [.lit (.int .u8 0), .lit (.int .u8 0)]]
/-- One of Go's own tables, pinned by name: the form's constant. -/
def laid_unicode_utf8_first : DataW Unit := Go.Pinned.utf8First

/-- 'laws.FnExactLastIndexFunc': WHATEVER THE INPUT: true; the input reads as it did. -/
def fnExactLastIndexFuncSpec : ChangeSpec := { name := "fnExactLastIndexFunc", fn := fun _ => fun
  | [d1, d2] => { results := [.lit (.bool true)], args := [d1, d2] }
  | _ => none }
def fnExactLastIndexFuncRow : OpenClaim := { program := "ytehjbmijbgonkaadoor", sum := "9e48f3fd064dec43d677754a0f40b46e4bbb4a9e207cbb3ad683d367877b29de", func := "loop.example/lib-g03415/laws.FnExactLastIndexFunc", spec := "fnExactLastIndexFunc", unfollowed := true, recurses := true, named := ["unicode/utf8.first", "unicode/utf8.acceptRanges"], apart := false, laid := [("unicode/utf8.acceptRanges", laid_unicode_utf8_acceptRanges), ("unicode/utf8.first", laid_unicode_utf8_first)] }
def FnExactLastIndexFuncSaid : Prop := fnExactLastIndexFuncRow.holds Tryd.pinned (OpenSpec.ofChange fnExactLastIndexFuncSpec)

/-- ITS FALSE NEIGHBOUR: 'it returns false'. Refute it at one input. -/
def fnExactLastIndexFuncWrong : ChangeSpec := { name := "fnExactLastIndexFunc", fn := fun _ => fun
  | [d1, d2] => { results := [.lit (.bool false)], args := [d1, d2] }
  | _ => none }
def FnExactLastIndexFuncWrongFalsely : Prop := fnExactLastIndexFuncRow.holds Tryd.pinned (OpenSpec.ofChange fnExactLastIndexFuncWrong)

/-- 'laws.FnExactTrimRightFunc': WHATEVER THE INPUT: true; the input reads as it did. -/
def fnExactTrimRightFuncSpec : ChangeSpec := { name := "fnExactTrimRightFunc", fn := fun _ => fun
  | [d1, d2] => { results := [.lit (.bool true)], args := [d1, d2] }
  | _ => none }
def fnExactTrimRightFuncRow : OpenClaim := { program := "ytehjbmijbgonkaadoor", sum := "9e48f3fd064dec43d677754a0f40b46e4bbb4a9e207cbb3ad683d367877b29de", func := "loop.example/lib-g03415/laws.FnExactTrimRightFunc", spec := "fnExactTrimRightFunc", unfollowed := true, recurses := true, named := ["unicode/utf8.first", "unicode/utf8.acceptRanges"], apart := false, laid := [("unicode/utf8.acceptRanges", laid_unicode_utf8_acceptRanges), ("unicode/utf8.first", laid_unicode_utf8_first)] }
def FnExactTrimRightFuncSaid : Prop := fnExactTrimRightFuncRow.holds Tryd.pinned (OpenSpec.ofChange fnExactTrimRightFuncSpec)

/-- ITS FALSE NEIGHBOUR: 'it returns false'. Refute it at one input. -/
def fnExactTrimRightFuncWrong : ChangeSpec := { name := "fnExactTrimRightFunc", fn := fun _ => fun
  | [d1, d2] => { results := [.lit (.bool false)], args := [d1, d2] }
  | _ => none }
def FnExactTrimRightFuncWrongFalsely : Prop := fnExactTrimRightFuncRow.holds Tryd.pinned (OpenSpec.ofChange fnExactTrimRightFuncWrong)

/-- 'laws.FnIndexFuncFirst': WHATEVER THE INPUT: true; the input reads as it did. -/
def fnIndexFuncFirstSpec : ChangeSpec := { name := "fnIndexFuncFirst", fn := fun _ => fun
  | [d1, d2, d3] => { results := [.lit (.bool true)], args := [d1, d2, d3] }
  | _ => none }
def fnIndexFuncFirstRow : OpenClaim := { program := "ytehjbmijbgonkaadoor", sum := "9e48f3fd064dec43d677754a0f40b46e4bbb4a9e207cbb3ad683d367877b29de", func := "loop.example/lib-g03415/laws.FnIndexFuncFirst", spec := "fnIndexFuncFirst", unfollowed := true, recurses := true, named := ["unicode/utf8.first", "unicode/utf8.acceptRanges"], apart := false, laid := [("unicode/utf8.acceptRanges", laid_unicode_utf8_acceptRanges), ("unicode/utf8.first", laid_unicode_utf8_first)] }
def FnIndexFuncFirstSaid : Prop := fnIndexFuncFirstRow.holds Tryd.pinned (OpenSpec.ofChange fnIndexFuncFirstSpec)

/-- ITS FALSE NEIGHBOUR: 'it returns false'. Refute it at one input. -/
def fnIndexFuncFirstWrong : ChangeSpec := { name := "fnIndexFuncFirst", fn := fun _ => fun
  | [d1, d2, d3] => { results := [.lit (.bool false)], args := [d1, d2, d3] }
  | _ => none }
def FnIndexFuncFirstWrongFalsely : Prop := fnIndexFuncFirstRow.holds Tryd.pinned (OpenSpec.ofChange fnIndexFuncFirstWrong)

/-- 'laws.FnExactTrimFunc': WHATEVER THE INPUT: true; the input reads as it did. -/
def fnExactTrimFuncSpec : ChangeSpec := { name := "fnExactTrimFunc", fn := fun _ => fun
  | [d1, d2] => { results := [.lit (.bool true)], args := [d1, d2] }
  | _ => none }
def fnExactTrimFuncRow : OpenClaim := { program := "ytehjbmijbgonkaadoor", sum := "9e48f3fd064dec43d677754a0f40b46e4bbb4a9e207cbb3ad683d367877b29de", func := "loop.example/lib-g03415/laws.FnExactTrimFunc", spec := "fnExactTrimFunc", unfollowed := true, recurses := true, named := ["unicode/utf8.first", "unicode/utf8.acceptRanges"], apart := false, laid := [("unicode/utf8.acceptRanges", laid_unicode_utf8_acceptRanges), ("unicode/utf8.first", laid_unicode_utf8_first)] }
def FnExactTrimFuncSaid : Prop := fnExactTrimFuncRow.holds Tryd.pinned (OpenSpec.ofChange fnExactTrimFuncSpec)

/-- ITS FALSE NEIGHBOUR: 'it returns false'. Refute it at one input. -/
def fnExactTrimFuncWrong : ChangeSpec := { name := "fnExactTrimFunc", fn := fun _ => fun
  | [d1, d2] => { results := [.lit (.bool false)], args := [d1, d2] }
  | _ => none }
def FnExactTrimFuncWrongFalsely : Prop := fnExactTrimFuncRow.holds Tryd.pinned (OpenSpec.ofChange fnExactTrimFuncWrong)

/-- 'laws.FnTrimFuncSides': WHATEVER THE INPUT: true; the input reads as it did. -/
def fnTrimFuncSidesSpec : ChangeSpec := { name := "fnTrimFuncSides", fn := fun _ => fun
  | [d1, d2, d3] => { results := [.lit (.bool true)], args := [d1, d2, d3] }
  | _ => none }
def fnTrimFuncSidesRow : OpenClaim := { program := "ytehjbmijbgonkaadoor", sum := "9e48f3fd064dec43d677754a0f40b46e4bbb4a9e207cbb3ad683d367877b29de", func := "loop.example/lib-g03415/laws.FnTrimFuncSides", spec := "fnTrimFuncSides", unfollowed := true, recurses := true, named := ["unicode/utf8.first", "unicode/utf8.acceptRanges"], apart := false, laid := [("unicode/utf8.acceptRanges", laid_unicode_utf8_acceptRanges), ("unicode/utf8.first", laid_unicode_utf8_first)] }
def FnTrimFuncSidesSaid : Prop := fnTrimFuncSidesRow.holds Tryd.pinned (OpenSpec.ofChange fnTrimFuncSidesSpec)

/-- ITS FALSE NEIGHBOUR: 'it returns false'. Refute it at one input. -/
def fnTrimFuncSidesWrong : ChangeSpec := { name := "fnTrimFuncSides", fn := fun _ => fun
  | [d1, d2, d3] => { results := [.lit (.bool false)], args := [d1, d2, d3] }
  | _ => none }
def FnTrimFuncSidesWrongFalsely : Prop := fnTrimFuncSidesRow.holds Tryd.pinned (OpenSpec.ofChange fnTrimFuncSidesWrong)

/-- 'laws.FnExactFieldsFuncSeq': WHATEVER THE INPUT: true; the input reads as it did. -/
def fnExactFieldsFuncSeqSpec : ChangeSpec := { name := "fnExactFieldsFuncSeq", fn := fun _ => fun
  | [d1, d2] => { results := [.lit (.bool true)], args := [d1, d2] }
  | _ => none }
def fnExactFieldsFuncSeqRow : OpenClaim := { program := "ytehjbmijbgonkaadoor", sum := "9e48f3fd064dec43d677754a0f40b46e4bbb4a9e207cbb3ad683d367877b29de", func := "loop.example/lib-g03415/laws.FnExactFieldsFuncSeq", spec := "fnExactFieldsFuncSeq", unfollowed := true, recurses := true, named := ["unicode/utf8.first", "unicode/utf8.acceptRanges"], apart := false, laid := [("unicode/utf8.acceptRanges", laid_unicode_utf8_acceptRanges), ("unicode/utf8.first", laid_unicode_utf8_first)] }
def FnExactFieldsFuncSeqSaid : Prop := fnExactFieldsFuncSeqRow.holds Tryd.pinned (OpenSpec.ofChange fnExactFieldsFuncSeqSpec)

/-- ITS FALSE NEIGHBOUR: 'it returns false'. Refute it at one input. -/
def fnExactFieldsFuncSeqWrong : ChangeSpec := { name := "fnExactFieldsFuncSeq", fn := fun _ => fun
  | [d1, d2] => { results := [.lit (.bool false)], args := [d1, d2] }
  | _ => none }
def FnExactFieldsFuncSeqWrongFalsely : Prop := fnExactFieldsFuncSeqRow.holds Tryd.pinned (OpenSpec.ofChange fnExactFieldsFuncSeqWrong)

/- THE SECOND FORM. 'bulk': how many values and letters a reading holds, each counted each time it is reached (what is shared counts as often as it is met; a slice's spare places count too). A statement '..UptoSaid' is the law's where the arguments, and the package variables that the reading takes, are together of bulk at most 1048576: NARROWER than '..Said'. Prove '..Said' where nothing that the law and all that it calls make is longer than what came in: it says more and counts as full. Else prove '..UptoSaid'. A law counts once. -/
mutual
def uptoBulk {H : Type} : DataW H → Nat
  | .lit (.string bytes) => bytes.length + 1
  | .lit _ => 1
  | .nil => 1
  | .ptr d => uptoBulk d + 1
  | .slice elems spare => uptoBulkAll elems + uptoBulkAll spare + 1
  | .agg parts => uptoBulkAll parts + 1
  | .iface _ d => uptoBulk d + 1
  | .map entries => uptoBulkEntries entries + 1
  | .held _ => 1
def uptoBulkAll {H : Type} : List (DataW H) → Nat
  | [] => 0
  | d :: r => uptoBulk d + uptoBulkAll r
def uptoBulkEntries {H : Type} : List (Lit × DataW H) → Nat
  | [] => 0
  | x :: r => uptoBulkEntry x + uptoBulkEntries r
def uptoBulkEntry {H : Type} : Lit × DataW H → Nat
  | (.string bytes, d) => bytes.length + uptoBulk d + 1
  | (_, d) => uptoBulk d + 1
 end
def uptoSmall : (H : Type) → List (DataW H) → Bool := fun _ ds => decide (uptoBulkAll ds ≤ 1048576)
def OpenSpec.upto (s : _root_.Go.ChangeSpec) : _root_.Go.OpenSpec := { _root_.Go.OpenSpec.ofChange s with cond := some uptoSmall }

/-- 'laws.FnExactLastIndexFunc', WHERE WHAT IT READS IS OF BULK AT MOST 1048576: true; the input reads as it did. -/
def fnExactLastIndexFuncUptoRow : OpenClaim := { program := "ytehjbmijbgonkaadoor", sum := "9e48f3fd064dec43d677754a0f40b46e4bbb4a9e207cbb3ad683d367877b29de", func := "loop.example/lib-g03415/laws.FnExactLastIndexFunc", spec := "fnExactLastIndexFunc", unfollowed := true, recurses := true, named := ["unicode/utf8.first", "unicode/utf8.acceptRanges"], apart := false, laid := [("unicode/utf8.acceptRanges", laid_unicode_utf8_acceptRanges), ("unicode/utf8.first", laid_unicode_utf8_first)], narrowed := true }
def FnExactLastIndexFuncUptoSaid : Prop := fnExactLastIndexFuncUptoRow.holds Tryd.pinned (OpenSpec.upto fnExactLastIndexFuncSpec)

/-- 'laws.FnExactTrimRightFunc', WHERE WHAT IT READS IS OF BULK AT MOST 1048576: true; the input reads as it did. -/
def fnExactTrimRightFuncUptoRow : OpenClaim := { program := "ytehjbmijbgonkaadoor", sum := "9e48f3fd064dec43d677754a0f40b46e4bbb4a9e207cbb3ad683d367877b29de", func := "loop.example/lib-g03415/laws.FnExactTrimRightFunc", spec := "fnExactTrimRightFunc", unfollowed := true, recurses := true, named := ["unicode/utf8.first", "unicode/utf8.acceptRanges"], apart := false, laid := [("unicode/utf8.acceptRanges", laid_unicode_utf8_acceptRanges), ("unicode/utf8.first", laid_unicode_utf8_first)], narrowed := true }
def FnExactTrimRightFuncUptoSaid : Prop := fnExactTrimRightFuncUptoRow.holds Tryd.pinned (OpenSpec.upto fnExactTrimRightFuncSpec)

/-- 'laws.FnIndexFuncFirst', WHERE WHAT IT READS IS OF BULK AT MOST 1048576: true; the input reads as it did. -/
def fnIndexFuncFirstUptoRow : OpenClaim := { program := "ytehjbmijbgonkaadoor", sum := "9e48f3fd064dec43d677754a0f40b46e4bbb4a9e207cbb3ad683d367877b29de", func := "loop.example/lib-g03415/laws.FnIndexFuncFirst", spec := "fnIndexFuncFirst", unfollowed := true, recurses := true, named := ["unicode/utf8.first", "unicode/utf8.acceptRanges"], apart := false, laid := [("unicode/utf8.acceptRanges", laid_unicode_utf8_acceptRanges), ("unicode/utf8.first", laid_unicode_utf8_first)], narrowed := true }
def FnIndexFuncFirstUptoSaid : Prop := fnIndexFuncFirstUptoRow.holds Tryd.pinned (OpenSpec.upto fnIndexFuncFirstSpec)

/-- 'laws.FnExactTrimFunc', WHERE WHAT IT READS IS OF BULK AT MOST 1048576: true; the input reads as it did. -/
def fnExactTrimFuncUptoRow : OpenClaim := { program := "ytehjbmijbgonkaadoor", sum := "9e48f3fd064dec43d677754a0f40b46e4bbb4a9e207cbb3ad683d367877b29de", func := "loop.example/lib-g03415/laws.FnExactTrimFunc", spec := "fnExactTrimFunc", unfollowed := true, recurses := true, named := ["unicode/utf8.first", "unicode/utf8.acceptRanges"], apart := false, laid := [("unicode/utf8.acceptRanges", laid_unicode_utf8_acceptRanges), ("unicode/utf8.first", laid_unicode_utf8_first)], narrowed := true }
def FnExactTrimFuncUptoSaid : Prop := fnExactTrimFuncUptoRow.holds Tryd.pinned (OpenSpec.upto fnExactTrimFuncSpec)

/-- 'laws.FnTrimFuncSides', WHERE WHAT IT READS IS OF BULK AT MOST 1048576: true; the input reads as it did. -/
def fnTrimFuncSidesUptoRow : OpenClaim := { program := "ytehjbmijbgonkaadoor", sum := "9e48f3fd064dec43d677754a0f40b46e4bbb4a9e207cbb3ad683d367877b29de", func := "loop.example/lib-g03415/laws.FnTrimFuncSides", spec := "fnTrimFuncSides", unfollowed := true, recurses := true, named := ["unicode/utf8.first", "unicode/utf8.acceptRanges"], apart := false, laid := [("unicode/utf8.acceptRanges", laid_unicode_utf8_acceptRanges), ("unicode/utf8.first", laid_unicode_utf8_first)], narrowed := true }
def FnTrimFuncSidesUptoSaid : Prop := fnTrimFuncSidesUptoRow.holds Tryd.pinned (OpenSpec.upto fnTrimFuncSidesSpec)

/-- 'laws.FnExactFieldsFuncSeq', WHERE WHAT IT READS IS OF BULK AT MOST 1048576: true; the input reads as it did. -/
def fnExactFieldsFuncSeqUptoRow : OpenClaim := { program := "ytehjbmijbgonkaadoor", sum := "9e48f3fd064dec43d677754a0f40b46e4bbb4a9e207cbb3ad683d367877b29de", func := "loop.example/lib-g03415/laws.FnExactFieldsFuncSeq", spec := "fnExactFieldsFuncSeq", unfollowed := true, recurses := true, named := ["unicode/utf8.first", "unicode/utf8.acceptRanges"], apart := false, laid := [("unicode/utf8.acceptRanges", laid_unicode_utf8_acceptRanges), ("unicode/utf8.first", laid_unicode_utf8_first)], narrowed := true }
def FnExactFieldsFuncSeqUptoSaid : Prop := fnExactFieldsFuncSeqUptoRow.holds Tryd.pinned (OpenSpec.upto fnExactFieldsFuncSeqSpec)

end Rows
end Go.Proofs.YtehjbmijbgonkaaDoor
