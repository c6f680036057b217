/-
  No cell of these rows narrows 'for every input' (looked for: loops, veiled, ifaces, maps, wideKeys, modest, calm, conditions, laid).
  DERIVED. THE GIVEN ROWS OF THIS SEAT. 6 by the template 'for every input the law returns true; each argument reads behind the call as it read before'; 0 by the template 'total and deterministic' (their statements: YtehjbmijbgonkaaTotals.lean).
  GIVEN WITH THE SEED: the statements are not yours to turn. If you find one false, say at which input.
  Laid BY PROGRAM, IN A SANDBOX (cutbox-rows.mjs): the forced cells as the released guide's own fill.sh prints them over the translation a53a6e7342c635e9… (all of the seat's roots in one cut). By AI agents, Wed Nov 11 2026. No macro, syntax, notation, axiom, sorry.
-/
import Derived.Test.YtehjbmijbgonkaaChecked
import GoSem.Claim
import GoSem.ClaimJoined
import GoSem.ClaimMapViews
import Derived.JoinedTies
import Derived.KernelRfl
namespace Go.Proofs.Ytehjbmijbgonkaa
/- THE CELL 'sum', in the pinned program and in every row, IS THE sha256 OF THE DUMP (.gsa) THAT YtehjbmijbgonkaaProg.lean LOADS. Nothing in Lean hashes anything: it is a label: what it is worth is what the hold of that sum in a sandbox is worth. -/
noncomputable def Try.pinned : Pinned := { name := "ytehjbmijbgonkaa", sum := "a53a6e7342c635e91e46c36980bf6a576a77430641f0399b8a0c6fdcf3dda255", checked := Try.checked }
namespace Rows
def none {H : Type} : Left H := { results := [], args := [] }

/-- 'laws.FnExactIndexFunc': WHATEVER THE INPUT: true; the input reads as it did. -/
def fnExactIndexFuncSpec : ChangeSpec := { name := "fnExactIndexFunc", fn := fun _ => fun
  | [d1, d2] => { results := [.lit (.bool true)], args := [d1, d2] }
  | _ => none }
def fnExactIndexFuncRow : OpenClaim := { program := "ytehjbmijbgonkaa", sum := "a53a6e7342c635e91e46c36980bf6a576a77430641f0399b8a0c6fdcf3dda255", func := "loop.example/lib-g03415/laws.FnExactIndexFunc", spec := "fnExactIndexFunc", unfollowed := true, recurses := true, apart := false }
def FnExactIndexFuncSaid : Prop := fnExactIndexFuncRow.holds Try.pinned (OpenSpec.ofChange fnExactIndexFuncSpec)

/-- ITS FALSE NEIGHBOUR: 'it returns false'. Refute it at one input. -/
def fnExactIndexFuncWrong : ChangeSpec := { name := "fnExactIndexFunc", fn := fun _ => fun
  | [d1, d2] => { results := [.lit (.bool false)], args := [d1, d2] }
  | _ => none }
def FnExactIndexFuncWrongFalsely : Prop := fnExactIndexFuncRow.holds Try.pinned (OpenSpec.ofChange fnExactIndexFuncWrong)

/-- 'laws.FnIndexFuncNot': WHATEVER THE INPUT: true; the input reads as it did. -/
def fnIndexFuncNotSpec : ChangeSpec := { name := "fnIndexFuncNot", fn := fun _ => fun
  | [d1, d2, d3] => { results := [.lit (.bool true)], args := [d1, d2, d3] }
  | _ => none }
def fnIndexFuncNotRow : OpenClaim := { program := "ytehjbmijbgonkaa", sum := "a53a6e7342c635e91e46c36980bf6a576a77430641f0399b8a0c6fdcf3dda255", func := "loop.example/lib-g03415/laws.FnIndexFuncNot", spec := "fnIndexFuncNot", unfollowed := true, recurses := true, apart := false }
def FnIndexFuncNotSaid : Prop := fnIndexFuncNotRow.holds Try.pinned (OpenSpec.ofChange fnIndexFuncNotSpec)

/-- ITS FALSE NEIGHBOUR: 'it returns false'. Refute it at one input. -/
def fnIndexFuncNotWrong : ChangeSpec := { name := "fnIndexFuncNot", fn := fun _ => fun
  | [d1, d2, d3] => { results := [.lit (.bool false)], args := [d1, d2, d3] }
  | _ => none }
def FnIndexFuncNotWrongFalsely : Prop := fnIndexFuncNotRow.holds Try.pinned (OpenSpec.ofChange fnIndexFuncNotWrong)

/-- 'laws.FnExactContainsFunc': WHATEVER THE INPUT: true; the input reads as it did. -/
def fnExactContainsFuncSpec : ChangeSpec := { name := "fnExactContainsFunc", fn := fun _ => fun
  | [d1, d2] => { results := [.lit (.bool true)], args := [d1, d2] }
  | _ => none }
def fnExactContainsFuncRow : OpenClaim := { program := "ytehjbmijbgonkaa", sum := "a53a6e7342c635e91e46c36980bf6a576a77430641f0399b8a0c6fdcf3dda255", func := "loop.example/lib-g03415/laws.FnExactContainsFunc", spec := "fnExactContainsFunc", unfollowed := true, recurses := true, apart := false }
def FnExactContainsFuncSaid : Prop := fnExactContainsFuncRow.holds Try.pinned (OpenSpec.ofChange fnExactContainsFuncSpec)

/-- ITS FALSE NEIGHBOUR: 'it returns false'. Refute it at one input. -/
def fnExactContainsFuncWrong : ChangeSpec := { name := "fnExactContainsFunc", fn := fun _ => fun
  | [d1, d2] => { results := [.lit (.bool false)], args := [d1, d2] }
  | _ => none }
def FnExactContainsFuncWrongFalsely : Prop := fnExactContainsFuncRow.holds Try.pinned (OpenSpec.ofChange fnExactContainsFuncWrong)

/-- 'laws.FnExactTrimLeftFunc': WHATEVER THE INPUT: true; the input reads as it did. -/
def fnExactTrimLeftFuncSpec : ChangeSpec := { name := "fnExactTrimLeftFunc", fn := fun _ => fun
  | [d1, d2] => { results := [.lit (.bool true)], args := [d1, d2] }
  | _ => none }
def fnExactTrimLeftFuncRow : OpenClaim := { program := "ytehjbmijbgonkaa", sum := "a53a6e7342c635e91e46c36980bf6a576a77430641f0399b8a0c6fdcf3dda255", func := "loop.example/lib-g03415/laws.FnExactTrimLeftFunc", spec := "fnExactTrimLeftFunc", unfollowed := true, recurses := true, apart := false }
def FnExactTrimLeftFuncSaid : Prop := fnExactTrimLeftFuncRow.holds Try.pinned (OpenSpec.ofChange fnExactTrimLeftFuncSpec)

/-- ITS FALSE NEIGHBOUR: 'it returns false'. Refute it at one input. -/
def fnExactTrimLeftFuncWrong : ChangeSpec := { name := "fnExactTrimLeftFunc", fn := fun _ => fun
  | [d1, d2] => { results := [.lit (.bool false)], args := [d1, d2] }
  | _ => none }
def FnExactTrimLeftFuncWrongFalsely : Prop := fnExactTrimLeftFuncRow.holds Try.pinned (OpenSpec.ofChange fnExactTrimLeftFuncWrong)

/-- 'laws.FnExactFieldsFunc': WHATEVER THE INPUT: true; the input reads as it did. -/
def fnExactFieldsFuncSpec : ChangeSpec := { name := "fnExactFieldsFunc", fn := fun _ => fun
  | [d1, d2] => { results := [.lit (.bool true)], args := [d1, d2] }
  | _ => none }
def fnExactFieldsFuncRow : OpenClaim := { program := "ytehjbmijbgonkaa", sum := "a53a6e7342c635e91e46c36980bf6a576a77430641f0399b8a0c6fdcf3dda255", func := "loop.example/lib-g03415/laws.FnExactFieldsFunc", spec := "fnExactFieldsFunc", unfollowed := true, recurses := true, apart := false }
def FnExactFieldsFuncSaid : Prop := fnExactFieldsFuncRow.holds Try.pinned (OpenSpec.ofChange fnExactFieldsFuncSpec)

/-- ITS FALSE NEIGHBOUR: 'it returns false'. Refute it at one input. -/
def fnExactFieldsFuncWrong : ChangeSpec := { name := "fnExactFieldsFunc", fn := fun _ => fun
  | [d1, d2] => { results := [.lit (.bool false)], args := [d1, d2] }
  | _ => none }
def FnExactFieldsFuncWrongFalsely : Prop := fnExactFieldsFuncRow.holds Try.pinned (OpenSpec.ofChange fnExactFieldsFuncWrong)

/-- 'laws.FnFieldsFuncParts': WHATEVER THE INPUT: true; the input reads as it did. -/
def fnFieldsFuncPartsSpec : ChangeSpec := { name := "fnFieldsFuncParts", fn := fun _ => fun
  | [d1, d2, d3] => { results := [.lit (.bool true)], args := [d1, d2, d3] }
  | _ => none }
def fnFieldsFuncPartsRow : OpenClaim := { program := "ytehjbmijbgonkaa", sum := "a53a6e7342c635e91e46c36980bf6a576a77430641f0399b8a0c6fdcf3dda255", func := "loop.example/lib-g03415/laws.FnFieldsFuncParts", spec := "fnFieldsFuncParts", unfollowed := true, recurses := true, apart := false }
def FnFieldsFuncPartsSaid : Prop := fnFieldsFuncPartsRow.holds Try.pinned (OpenSpec.ofChange fnFieldsFuncPartsSpec)

/-- ITS FALSE NEIGHBOUR: 'it returns false'. Refute it at one input. -/
def fnFieldsFuncPartsWrong : ChangeSpec := { name := "fnFieldsFuncParts", fn := fun _ => fun
  | [d1, d2, d3] => { results := [.lit (.bool false)], args := [d1, d2, d3] }
  | _ => none }
def FnFieldsFuncPartsWrongFalsely : Prop := fnFieldsFuncPartsRow.holds Try.pinned (OpenSpec.ofChange fnFieldsFuncPartsWrong)

/- THE SECOND FORM. 'bulk': how many values and letters a reading holds, each counted each time it is reached (what is shared counts as often as it is met; a slice's spare places count too). A statement '..UptoSaid' is the law's where the arguments, and the package variables that the reading takes, are together of bulk at most 1048576: NARROWER than '..Said'. Prove '..Said' where nothing that the law and all that it calls make is longer than what came in: it says more and counts as full. Else prove '..UptoSaid'. A law counts once. -/
mutual
def uptoBulk {H : Type} : DataW H → Nat
  | .lit (.string bytes) => bytes.length + 1
  | .lit _ => 1
  | .nil => 1
  | .ptr d => uptoBulk d + 1
  | .slice elems spare => uptoBulkAll elems + uptoBulkAll spare + 1
  | .agg parts => uptoBulkAll parts + 1
  | .iface _ d => uptoBulk d + 1
  | .map entries => uptoBulkEntries entries + 1
  | .held _ => 1
def uptoBulkAll {H : Type} : List (DataW H) → Nat
  | [] => 0
  | d :: r => uptoBulk d + uptoBulkAll r
def uptoBulkEntries {H : Type} : List (Lit × DataW H) → Nat
  | [] => 0
  | x :: r => uptoBulkEntry x + uptoBulkEntries r
def uptoBulkEntry {H : Type} : Lit × DataW H → Nat
  | (.string bytes, d) => bytes.length + uptoBulk d + 1
  | (_, d) => uptoBulk d + 1
 end
def uptoSmall : (H : Type) → List (DataW H) → Bool := fun _ ds => decide (uptoBulkAll ds ≤ 1048576)
def OpenSpec.upto (s : _root_.Go.ChangeSpec) : _root_.Go.OpenSpec := { _root_.Go.OpenSpec.ofChange s with cond := some uptoSmall }

/-- 'laws.FnExactIndexFunc', WHERE WHAT IT READS IS OF BULK AT MOST 1048576: true; the input reads as it did. -/
def fnExactIndexFuncUptoRow : OpenClaim := { program := "ytehjbmijbgonkaa", sum := "a53a6e7342c635e91e46c36980bf6a576a77430641f0399b8a0c6fdcf3dda255", func := "loop.example/lib-g03415/laws.FnExactIndexFunc", spec := "fnExactIndexFunc", unfollowed := true, recurses := true, apart := false, narrowed := true }
def FnExactIndexFuncUptoSaid : Prop := fnExactIndexFuncUptoRow.holds Try.pinned (OpenSpec.upto fnExactIndexFuncSpec)

/-- 'laws.FnIndexFuncNot', WHERE WHAT IT READS IS OF BULK AT MOST 1048576: true; the input reads as it did. -/
def fnIndexFuncNotUptoRow : OpenClaim := { program := "ytehjbmijbgonkaa", sum := "a53a6e7342c635e91e46c36980bf6a576a77430641f0399b8a0c6fdcf3dda255", func := "loop.example/lib-g03415/laws.FnIndexFuncNot", spec := "fnIndexFuncNot", unfollowed := true, recurses := true, apart := false, narrowed := true }
def FnIndexFuncNotUptoSaid : Prop := fnIndexFuncNotUptoRow.holds Try.pinned (OpenSpec.upto fnIndexFuncNotSpec)

/-- 'laws.FnExactContainsFunc', WHERE WHAT IT READS IS OF BULK AT MOST 1048576: true; the input reads as it did. -/
def fnExactContainsFuncUptoRow : OpenClaim := { program := "ytehjbmijbgonkaa", sum := "a53a6e7342c635e91e46c36980bf6a576a77430641f0399b8a0c6fdcf3dda255", func := "loop.example/lib-g03415/laws.FnExactContainsFunc", spec := "fnExactContainsFunc", unfollowed := true, recurses := true, apart := false, narrowed := true }
def FnExactContainsFuncUptoSaid : Prop := fnExactContainsFuncUptoRow.holds Try.pinned (OpenSpec.upto fnExactContainsFuncSpec)

/-- 'laws.FnExactTrimLeftFunc', WHERE WHAT IT READS IS OF BULK AT MOST 1048576: true; the input reads as it did. -/
def fnExactTrimLeftFuncUptoRow : OpenClaim := { program := "ytehjbmijbgonkaa", sum := "a53a6e7342c635e91e46c36980bf6a576a77430641f0399b8a0c6fdcf3dda255", func := "loop.example/lib-g03415/laws.FnExactTrimLeftFunc", spec := "fnExactTrimLeftFunc", unfollowed := true, recurses := true, apart := false, narrowed := true }
def FnExactTrimLeftFuncUptoSaid : Prop := fnExactTrimLeftFuncUptoRow.holds Try.pinned (OpenSpec.upto fnExactTrimLeftFuncSpec)

/-- 'laws.FnExactFieldsFunc', WHERE WHAT IT READS IS OF BULK AT MOST 1048576: true; the input reads as it did. -/
def fnExactFieldsFuncUptoRow : OpenClaim := { program := "ytehjbmijbgonkaa", sum := "a53a6e7342c635e91e46c36980bf6a576a77430641f0399b8a0c6fdcf3dda255", func := "loop.example/lib-g03415/laws.FnExactFieldsFunc", spec := "fnExactFieldsFunc", unfollowed := true, recurses := true, apart := false, narrowed := true }
def FnExactFieldsFuncUptoSaid : Prop := fnExactFieldsFuncUptoRow.holds Try.pinned (OpenSpec.upto fnExactFieldsFuncSpec)

/-- 'laws.FnFieldsFuncParts', WHERE WHAT IT READS IS OF BULK AT MOST 1048576: true; the input reads as it did. -/
def fnFieldsFuncPartsUptoRow : OpenClaim := { program := "ytehjbmijbgonkaa", sum := "a53a6e7342c635e91e46c36980bf6a576a77430641f0399b8a0c6fdcf3dda255", func := "loop.example/lib-g03415/laws.FnFieldsFuncParts", spec := "fnFieldsFuncParts", unfollowed := true, recurses := true, apart := false, narrowed := true }
def FnFieldsFuncPartsUptoSaid : Prop := fnFieldsFuncPartsUptoRow.holds Try.pinned (OpenSpec.upto fnFieldsFuncPartsSpec)

end Rows
end Go.Proofs.Ytehjbmijbgonkaa
