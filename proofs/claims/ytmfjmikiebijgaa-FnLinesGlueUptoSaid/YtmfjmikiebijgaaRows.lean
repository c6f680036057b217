/-
  No cell of these rows narrows 'for every input' (looked for: loops, veiled, ifaces, maps, wideKeys, modest, calm, conditions, laid).
  DERIVED. THE GIVEN ROWS OF THIS SEAT. 11 by the template 'for every input the law returns true; each argument reads behind the call as it read before'; 0 by the template 'total and deterministic' (their statements: YtmfjmikiebijgaaTotals.lean).
  GIVEN WITH THE SEED: the statements are not yours to turn. If you find one false, say at which input.
  Laid BY PROGRAM, IN A SANDBOX (cutbox-rows.mjs): the forced cells as the released guide's own fill.sh prints them over the translation 5c724bcd2e03fd98… (all of the seat's roots in one cut). By AI agents, Wed Nov 11 2026. No macro, syntax, notation, axiom, sorry.
-/
import Derived.Test.YtmfjmikiebijgaaChecked
import GoSem.Claim
import GoSem.ClaimJoined
import GoSem.ClaimMapViews
import Derived.JoinedTies
import Derived.KernelRfl
namespace Go.Proofs.Ytmfjmikiebijgaa
/- THE CELL 'sum', in the pinned program and in every row, IS THE sha256 OF THE DUMP (.gsa) THAT YtmfjmikiebijgaaProg.lean LOADS. Nothing in Lean hashes anything: it is a label: what it is worth is what the hold of that sum in a sandbox is worth. -/
noncomputable def Try.pinned : Pinned := { name := "ytmfjmikiebijgaa", sum := "5c724bcd2e03fd98398f116c9c0844a85b1b7cd8b012f6bf94133a2bacc4d1a0", checked := Try.checked }
namespace Rows
def none {H : Type} : Left H := { results := [], args := [] }

/-- 'laws.FnPrefixMirror': WHATEVER THE INPUT: true; the input reads as it did. -/
def fnPrefixMirrorSpec : ChangeSpec := { name := "fnPrefixMirror", fn := fun _ => fun
  | [d1, d2] => { results := [.lit (.bool true)], args := [d1, d2] }
  | _ => none }
def fnPrefixMirrorRow : OpenClaim := { program := "ytmfjmikiebijgaa", sum := "5c724bcd2e03fd98398f116c9c0844a85b1b7cd8b012f6bf94133a2bacc4d1a0", func := "loop.example/lib-g03415/laws.FnPrefixMirror", spec := "fnPrefixMirror", apart := false }
def FnPrefixMirrorSaid : Prop := fnPrefixMirrorRow.holds Try.pinned (OpenSpec.ofChange fnPrefixMirrorSpec)

/-- ITS FALSE NEIGHBOUR: 'it returns false'. Refute it at one input. -/
def fnPrefixMirrorWrong : ChangeSpec := { name := "fnPrefixMirror", fn := fun _ => fun
  | [d1, d2] => { results := [.lit (.bool false)], args := [d1, d2] }
  | _ => none }
def FnPrefixMirrorWrongFalsely : Prop := fnPrefixMirrorRow.holds Try.pinned (OpenSpec.ofChange fnPrefixMirrorWrong)

/-- 'laws.FnCutPrefixRoads': WHATEVER THE INPUT: true; the input reads as it did. -/
def fnCutPrefixRoadsSpec : ChangeSpec := { name := "fnCutPrefixRoads", fn := fun _ => fun
  | [d1, d2] => { results := [.lit (.bool true)], args := [d1, d2] }
  | _ => none }
def fnCutPrefixRoadsRow : OpenClaim := { program := "ytmfjmikiebijgaa", sum := "5c724bcd2e03fd98398f116c9c0844a85b1b7cd8b012f6bf94133a2bacc4d1a0", func := "loop.example/lib-g03415/laws.FnCutPrefixRoads", spec := "fnCutPrefixRoads", apart := false }
def FnCutPrefixRoadsSaid : Prop := fnCutPrefixRoadsRow.holds Try.pinned (OpenSpec.ofChange fnCutPrefixRoadsSpec)

/-- ITS FALSE NEIGHBOUR: 'it returns false'. Refute it at one input. -/
def fnCutPrefixRoadsWrong : ChangeSpec := { name := "fnCutPrefixRoads", fn := fun _ => fun
  | [d1, d2] => { results := [.lit (.bool false)], args := [d1, d2] }
  | _ => none }
def FnCutPrefixRoadsWrongFalsely : Prop := fnCutPrefixRoadsRow.holds Try.pinned (OpenSpec.ofChange fnCutPrefixRoadsWrong)

/-- 'laws.FnCutSuffixRoads': WHATEVER THE INPUT: true; the input reads as it did. -/
def fnCutSuffixRoadsSpec : ChangeSpec := { name := "fnCutSuffixRoads", fn := fun _ => fun
  | [d1, d2] => { results := [.lit (.bool true)], args := [d1, d2] }
  | _ => none }
def fnCutSuffixRoadsRow : OpenClaim := { program := "ytmfjmikiebijgaa", sum := "5c724bcd2e03fd98398f116c9c0844a85b1b7cd8b012f6bf94133a2bacc4d1a0", func := "loop.example/lib-g03415/laws.FnCutSuffixRoads", spec := "fnCutSuffixRoads", apart := false }
def FnCutSuffixRoadsSaid : Prop := fnCutSuffixRoadsRow.holds Try.pinned (OpenSpec.ofChange fnCutSuffixRoadsSpec)

/-- ITS FALSE NEIGHBOUR: 'it returns false'. Refute it at one input. -/
def fnCutSuffixRoadsWrong : ChangeSpec := { name := "fnCutSuffixRoads", fn := fun _ => fun
  | [d1, d2] => { results := [.lit (.bool false)], args := [d1, d2] }
  | _ => none }
def FnCutSuffixRoadsWrongFalsely : Prop := fnCutSuffixRoadsRow.holds Try.pinned (OpenSpec.ofChange fnCutSuffixRoadsWrong)

/-- 'laws.FnPrefixSum': WHATEVER THE INPUT: true; the input reads as it did. -/
def fnPrefixSumSpec : ChangeSpec := { name := "fnPrefixSum", fn := fun _ => fun
  | [d1, d2] => { results := [.lit (.bool true)], args := [d1, d2] }
  | _ => none }
def fnPrefixSumRow : OpenClaim := { program := "ytmfjmikiebijgaa", sum := "5c724bcd2e03fd98398f116c9c0844a85b1b7cd8b012f6bf94133a2bacc4d1a0", func := "loop.example/lib-g03415/laws.FnPrefixSum", spec := "fnPrefixSum", apart := false }
def FnPrefixSumSaid : Prop := fnPrefixSumRow.holds Try.pinned (OpenSpec.ofChange fnPrefixSumSpec)

/-- ITS FALSE NEIGHBOUR: 'it returns false'. Refute it at one input. -/
def fnPrefixSumWrong : ChangeSpec := { name := "fnPrefixSum", fn := fun _ => fun
  | [d1, d2] => { results := [.lit (.bool false)], args := [d1, d2] }
  | _ => none }
def FnPrefixSumWrongFalsely : Prop := fnPrefixSumRow.holds Try.pinned (OpenSpec.ofChange fnPrefixSumWrong)

/-- 'laws.FnExactLastIndex': WHATEVER THE INPUT: true; the input reads as it did. -/
def fnExactLastIndexSpec : ChangeSpec := { name := "fnExactLastIndex", fn := fun _ => fun
  | [d1, d2] => { results := [.lit (.bool true)], args := [d1, d2] }
  | _ => none }
def fnExactLastIndexRow : OpenClaim := { program := "ytmfjmikiebijgaa", sum := "5c724bcd2e03fd98398f116c9c0844a85b1b7cd8b012f6bf94133a2bacc4d1a0", func := "loop.example/lib-g03415/laws.FnExactLastIndex", spec := "fnExactLastIndex", apart := false }
def FnExactLastIndexSaid : Prop := fnExactLastIndexRow.holds Try.pinned (OpenSpec.ofChange fnExactLastIndexSpec)

/-- ITS FALSE NEIGHBOUR: 'it returns false'. Refute it at one input. -/
def fnExactLastIndexWrong : ChangeSpec := { name := "fnExactLastIndex", fn := fun _ => fun
  | [d1, d2] => { results := [.lit (.bool false)], args := [d1, d2] }
  | _ => none }
def FnExactLastIndexWrongFalsely : Prop := fnExactLastIndexRow.holds Try.pinned (OpenSpec.ofChange fnExactLastIndexWrong)

/-- 'laws.FnLastIndexBetween': WHATEVER THE INPUT: true; the input reads as it did. -/
def fnLastIndexBetweenSpec : ChangeSpec := { name := "fnLastIndexBetween", fn := fun _ => fun
  | [d1, d2, d3] => { results := [.lit (.bool true)], args := [d1, d2, d3] }
  | _ => none }
def fnLastIndexBetweenRow : OpenClaim := { program := "ytmfjmikiebijgaa", sum := "5c724bcd2e03fd98398f116c9c0844a85b1b7cd8b012f6bf94133a2bacc4d1a0", func := "loop.example/lib-g03415/laws.FnLastIndexBetween", spec := "fnLastIndexBetween", apart := false }
def FnLastIndexBetweenSaid : Prop := fnLastIndexBetweenRow.holds Try.pinned (OpenSpec.ofChange fnLastIndexBetweenSpec)

/-- ITS FALSE NEIGHBOUR: 'it returns false'. Refute it at one input. -/
def fnLastIndexBetweenWrong : ChangeSpec := { name := "fnLastIndexBetween", fn := fun _ => fun
  | [d1, d2, d3] => { results := [.lit (.bool false)], args := [d1, d2, d3] }
  | _ => none }
def FnLastIndexBetweenWrongFalsely : Prop := fnLastIndexBetweenRow.holds Try.pinned (OpenSpec.ofChange fnLastIndexBetweenWrong)

/-- 'laws.FnLastIndexLast': WHATEVER THE INPUT: true; the input reads as it did. -/
def fnLastIndexLastSpec : ChangeSpec := { name := "fnLastIndexLast", fn := fun _ => fun
  | [d1, d2] => { results := [.lit (.bool true)], args := [d1, d2] }
  | _ => none }
def fnLastIndexLastRow : OpenClaim := { program := "ytmfjmikiebijgaa", sum := "5c724bcd2e03fd98398f116c9c0844a85b1b7cd8b012f6bf94133a2bacc4d1a0", func := "loop.example/lib-g03415/laws.FnLastIndexLast", spec := "fnLastIndexLast", apart := false }
def FnLastIndexLastSaid : Prop := fnLastIndexLastRow.holds Try.pinned (OpenSpec.ofChange fnLastIndexLastSpec)

/-- ITS FALSE NEIGHBOUR: 'it returns false'. Refute it at one input. -/
def fnLastIndexLastWrong : ChangeSpec := { name := "fnLastIndexLast", fn := fun _ => fun
  | [d1, d2] => { results := [.lit (.bool false)], args := [d1, d2] }
  | _ => none }
def FnLastIndexLastWrongFalsely : Prop := fnLastIndexLastRow.holds Try.pinned (OpenSpec.ofChange fnLastIndexLastWrong)

/-- 'laws.FnSuffixLast': WHATEVER THE INPUT: true; the input reads as it did. -/
def fnSuffixLastSpec : ChangeSpec := { name := "fnSuffixLast", fn := fun _ => fun
  | [d1, d2] => { results := [.lit (.bool true)], args := [d1, d2] }
  | _ => none }
def fnSuffixLastRow : OpenClaim := { program := "ytmfjmikiebijgaa", sum := "5c724bcd2e03fd98398f116c9c0844a85b1b7cd8b012f6bf94133a2bacc4d1a0", func := "loop.example/lib-g03415/laws.FnSuffixLast", spec := "fnSuffixLast", apart := false }
def FnSuffixLastSaid : Prop := fnSuffixLastRow.holds Try.pinned (OpenSpec.ofChange fnSuffixLastSpec)

/-- ITS FALSE NEIGHBOUR: 'it returns false'. Refute it at one input. -/
def fnSuffixLastWrong : ChangeSpec := { name := "fnSuffixLast", fn := fun _ => fun
  | [d1, d2] => { results := [.lit (.bool false)], args := [d1, d2] }
  | _ => none }
def FnSuffixLastWrongFalsely : Prop := fnSuffixLastRow.holds Try.pinned (OpenSpec.ofChange fnSuffixLastWrong)

/-- 'laws.FnIndexByteEnds': WHATEVER THE INPUT: true; the input reads as it did. -/
def fnIndexByteEndsSpec : ChangeSpec := { name := "fnIndexByteEnds", fn := fun _ => fun
  | [d1, d2] => { results := [.lit (.bool true)], args := [d1, d2] }
  | _ => none }
def fnIndexByteEndsRow : OpenClaim := { program := "ytmfjmikiebijgaa", sum := "5c724bcd2e03fd98398f116c9c0844a85b1b7cd8b012f6bf94133a2bacc4d1a0", func := "loop.example/lib-g03415/laws.FnIndexByteEnds", spec := "fnIndexByteEnds", inPlace := ["internal/bytealg.IndexByteString"], apart := false }
def FnIndexByteEndsSaid : Prop := fnIndexByteEndsRow.holds Try.pinned (OpenSpec.ofChange fnIndexByteEndsSpec)

/-- ITS FALSE NEIGHBOUR: 'it returns false'. Refute it at one input. -/
def fnIndexByteEndsWrong : ChangeSpec := { name := "fnIndexByteEnds", fn := fun _ => fun
  | [d1, d2] => { results := [.lit (.bool false)], args := [d1, d2] }
  | _ => none }
def FnIndexByteEndsWrongFalsely : Prop := fnIndexByteEndsRow.holds Try.pinned (OpenSpec.ofChange fnIndexByteEndsWrong)

/-- 'laws.FnExactLines': WHATEVER THE INPUT: true; the input reads as it did. -/
def fnExactLinesSpec : ChangeSpec := { name := "fnExactLines", fn := fun _ => fun
  | [d] => { results := [.lit (.bool true)], args := [d] }
  | _ => none }
def fnExactLinesRow : OpenClaim := { program := "ytmfjmikiebijgaa", sum := "5c724bcd2e03fd98398f116c9c0844a85b1b7cd8b012f6bf94133a2bacc4d1a0", func := "loop.example/lib-g03415/laws.FnExactLines", spec := "fnExactLines", inPlace := ["internal/bytealg.IndexByteString"], unfollowed := true, recurses := true, apart := false }
def FnExactLinesSaid : Prop := fnExactLinesRow.holds Try.pinned (OpenSpec.ofChange fnExactLinesSpec)

/-- ITS FALSE NEIGHBOUR: 'it returns false'. Refute it at one input. -/
def fnExactLinesWrong : ChangeSpec := { name := "fnExactLines", fn := fun _ => fun
  | [d] => { results := [.lit (.bool false)], args := [d] }
  | _ => none }
def FnExactLinesWrongFalsely : Prop := fnExactLinesRow.holds Try.pinned (OpenSpec.ofChange fnExactLinesWrong)

/-- 'laws.FnLinesGlue': WHATEVER THE INPUT: true; the input reads as it did. -/
def fnLinesGlueSpec : ChangeSpec := { name := "fnLinesGlue", fn := fun _ => fun
  | [d] => { results := [.lit (.bool true)], args := [d] }
  | _ => none }
def fnLinesGlueRow : OpenClaim := { program := "ytmfjmikiebijgaa", sum := "5c724bcd2e03fd98398f116c9c0844a85b1b7cd8b012f6bf94133a2bacc4d1a0", func := "loop.example/lib-g03415/laws.FnLinesGlue", spec := "fnLinesGlue", inPlace := ["internal/bytealg.IndexByteString"], unfollowed := true, recurses := true, apart := false }
def FnLinesGlueSaid : Prop := fnLinesGlueRow.holds Try.pinned (OpenSpec.ofChange fnLinesGlueSpec)

/-- ITS FALSE NEIGHBOUR: 'it returns false'. Refute it at one input. -/
def fnLinesGlueWrong : ChangeSpec := { name := "fnLinesGlue", fn := fun _ => fun
  | [d] => { results := [.lit (.bool false)], args := [d] }
  | _ => none }
def FnLinesGlueWrongFalsely : Prop := fnLinesGlueRow.holds Try.pinned (OpenSpec.ofChange fnLinesGlueWrong)

/- THE SECOND FORM. 'bulk': how many values and letters a reading holds, each counted each time it is reached (what is shared counts as often as it is met; a slice's spare places count too). A statement '..UptoSaid' is the law's where the arguments, and the package variables that the reading takes, are together of bulk at most 1048576: NARROWER than '..Said'. Prove '..Said' where nothing that the law and all that it calls make is longer than what came in: it says more and counts as full. Else prove '..UptoSaid'. A law counts once. -/
mutual
def uptoBulk {H : Type} : DataW H → Nat
  | .lit (.string bytes) => bytes.length + 1
  | .lit _ => 1
  | .nil => 1
  | .ptr d => uptoBulk d + 1
  | .slice elems spare => uptoBulkAll elems + uptoBulkAll spare + 1
  | .agg parts => uptoBulkAll parts + 1
  | .iface _ d => uptoBulk d + 1
  | .map entries => uptoBulkEntries entries + 1
  | .held _ => 1
def uptoBulkAll {H : Type} : List (DataW H) → Nat
  | [] => 0
  | d :: r => uptoBulk d + uptoBulkAll r
def uptoBulkEntries {H : Type} : List (Lit × DataW H) → Nat
  | [] => 0
  | x :: r => uptoBulkEntry x + uptoBulkEntries r
def uptoBulkEntry {H : Type} : Lit × DataW H → Nat
  | (.string bytes, d) => bytes.length + uptoBulk d + 1
  | (_, d) => uptoBulk d + 1
 end
def uptoSmall : (H : Type) → List (DataW H) → Bool := fun _ ds => decide (uptoBulkAll ds ≤ 1048576)
def OpenSpec.upto (s : _root_.Go.ChangeSpec) : _root_.Go.OpenSpec := { _root_.Go.OpenSpec.ofChange s with cond := some uptoSmall }

/-- 'laws.FnPrefixMirror', WHERE WHAT IT READS IS OF BULK AT MOST 1048576: true; the input reads as it did. -/
def fnPrefixMirrorUptoRow : OpenClaim := { program := "ytmfjmikiebijgaa", sum := "5c724bcd2e03fd98398f116c9c0844a85b1b7cd8b012f6bf94133a2bacc4d1a0", func := "loop.example/lib-g03415/laws.FnPrefixMirror", spec := "fnPrefixMirror", apart := false, narrowed := true }
def FnPrefixMirrorUptoSaid : Prop := fnPrefixMirrorUptoRow.holds Try.pinned (OpenSpec.upto fnPrefixMirrorSpec)

/-- 'laws.FnCutPrefixRoads', WHERE WHAT IT READS IS OF BULK AT MOST 1048576: true; the input reads as it did. -/
def fnCutPrefixRoadsUptoRow : OpenClaim := { program := "ytmfjmikiebijgaa", sum := "5c724bcd2e03fd98398f116c9c0844a85b1b7cd8b012f6bf94133a2bacc4d1a0", func := "loop.example/lib-g03415/laws.FnCutPrefixRoads", spec := "fnCutPrefixRoads", apart := false, narrowed := true }
def FnCutPrefixRoadsUptoSaid : Prop := fnCutPrefixRoadsUptoRow.holds Try.pinned (OpenSpec.upto fnCutPrefixRoadsSpec)

/-- 'laws.FnCutSuffixRoads', WHERE WHAT IT READS IS OF BULK AT MOST 1048576: true; the input reads as it did. -/
def fnCutSuffixRoadsUptoRow : OpenClaim := { program := "ytmfjmikiebijgaa", sum := "5c724bcd2e03fd98398f116c9c0844a85b1b7cd8b012f6bf94133a2bacc4d1a0", func := "loop.example/lib-g03415/laws.FnCutSuffixRoads", spec := "fnCutSuffixRoads", apart := false, narrowed := true }
def FnCutSuffixRoadsUptoSaid : Prop := fnCutSuffixRoadsUptoRow.holds Try.pinned (OpenSpec.upto fnCutSuffixRoadsSpec)

/-- 'laws.FnPrefixSum', WHERE WHAT IT READS IS OF BULK AT MOST 1048576: true; the input reads as it did. -/
def fnPrefixSumUptoRow : OpenClaim := { program := "ytmfjmikiebijgaa", sum := "5c724bcd2e03fd98398f116c9c0844a85b1b7cd8b012f6bf94133a2bacc4d1a0", func := "loop.example/lib-g03415/laws.FnPrefixSum", spec := "fnPrefixSum", apart := false, narrowed := true }
def FnPrefixSumUptoSaid : Prop := fnPrefixSumUptoRow.holds Try.pinned (OpenSpec.upto fnPrefixSumSpec)

/-- 'laws.FnExactLastIndex', WHERE WHAT IT READS IS OF BULK AT MOST 1048576: true; the input reads as it did. -/
def fnExactLastIndexUptoRow : OpenClaim := { program := "ytmfjmikiebijgaa", sum := "5c724bcd2e03fd98398f116c9c0844a85b1b7cd8b012f6bf94133a2bacc4d1a0", func := "loop.example/lib-g03415/laws.FnExactLastIndex", spec := "fnExactLastIndex", apart := false, narrowed := true }
def FnExactLastIndexUptoSaid : Prop := fnExactLastIndexUptoRow.holds Try.pinned (OpenSpec.upto fnExactLastIndexSpec)

/-- 'laws.FnLastIndexBetween', WHERE WHAT IT READS IS OF BULK AT MOST 1048576: true; the input reads as it did. -/
def fnLastIndexBetweenUptoRow : OpenClaim := { program := "ytmfjmikiebijgaa", sum := "5c724bcd2e03fd98398f116c9c0844a85b1b7cd8b012f6bf94133a2bacc4d1a0", func := "loop.example/lib-g03415/laws.FnLastIndexBetween", spec := "fnLastIndexBetween", apart := false, narrowed := true }
def FnLastIndexBetweenUptoSaid : Prop := fnLastIndexBetweenUptoRow.holds Try.pinned (OpenSpec.upto fnLastIndexBetweenSpec)

/-- 'laws.FnLastIndexLast', WHERE WHAT IT READS IS OF BULK AT MOST 1048576: true; the input reads as it did. -/
def fnLastIndexLastUptoRow : OpenClaim := { program := "ytmfjmikiebijgaa", sum := "5c724bcd2e03fd98398f116c9c0844a85b1b7cd8b012f6bf94133a2bacc4d1a0", func := "loop.example/lib-g03415/laws.FnLastIndexLast", spec := "fnLastIndexLast", apart := false, narrowed := true }
def FnLastIndexLastUptoSaid : Prop := fnLastIndexLastUptoRow.holds Try.pinned (OpenSpec.upto fnLastIndexLastSpec)

/-- 'laws.FnSuffixLast', WHERE WHAT IT READS IS OF BULK AT MOST 1048576: true; the input reads as it did. -/
def fnSuffixLastUptoRow : OpenClaim := { program := "ytmfjmikiebijgaa", sum := "5c724bcd2e03fd98398f116c9c0844a85b1b7cd8b012f6bf94133a2bacc4d1a0", func := "loop.example/lib-g03415/laws.FnSuffixLast", spec := "fnSuffixLast", apart := false, narrowed := true }
def FnSuffixLastUptoSaid : Prop := fnSuffixLastUptoRow.holds Try.pinned (OpenSpec.upto fnSuffixLastSpec)

/-- 'laws.FnIndexByteEnds', WHERE WHAT IT READS IS OF BULK AT MOST 1048576: true; the input reads as it did. -/
def fnIndexByteEndsUptoRow : OpenClaim := { program := "ytmfjmikiebijgaa", sum := "5c724bcd2e03fd98398f116c9c0844a85b1b7cd8b012f6bf94133a2bacc4d1a0", func := "loop.example/lib-g03415/laws.FnIndexByteEnds", spec := "fnIndexByteEnds", inPlace := ["internal/bytealg.IndexByteString"], apart := false, narrowed := true }
def FnIndexByteEndsUptoSaid : Prop := fnIndexByteEndsUptoRow.holds Try.pinned (OpenSpec.upto fnIndexByteEndsSpec)

/-- 'laws.FnExactLines', WHERE WHAT IT READS IS OF BULK AT MOST 1048576: true; the input reads as it did. -/
def fnExactLinesUptoRow : OpenClaim := { program := "ytmfjmikiebijgaa", sum := "5c724bcd2e03fd98398f116c9c0844a85b1b7cd8b012f6bf94133a2bacc4d1a0", func := "loop.example/lib-g03415/laws.FnExactLines", spec := "fnExactLines", inPlace := ["internal/bytealg.IndexByteString"], unfollowed := true, recurses := true, apart := false, narrowed := true }
def FnExactLinesUptoSaid : Prop := fnExactLinesUptoRow.holds Try.pinned (OpenSpec.upto fnExactLinesSpec)

/-- 'laws.FnLinesGlue', WHERE WHAT IT READS IS OF BULK AT MOST 1048576: true; the input reads as it did. -/
def fnLinesGlueUptoRow : OpenClaim := { program := "ytmfjmikiebijgaa", sum := "5c724bcd2e03fd98398f116c9c0844a85b1b7cd8b012f6bf94133a2bacc4d1a0", func := "loop.example/lib-g03415/laws.FnLinesGlue", spec := "fnLinesGlue", inPlace := ["internal/bytealg.IndexByteString"], unfollowed := true, recurses := true, apart := false, narrowed := true }
def FnLinesGlueUptoSaid : Prop := fnLinesGlueUptoRow.holds Try.pinned (OpenSpec.upto fnLinesGlueSpec)

end Rows
end Go.Proofs.Ytmfjmikiebijgaa
