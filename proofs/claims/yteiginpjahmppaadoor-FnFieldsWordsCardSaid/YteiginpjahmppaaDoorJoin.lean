/-
  The contract of impl.Join at the seat's numbers. Conditions: the list lies in memory; what comes out is within one block of memory.
-/
import Derived.Test.YteiginpjahmppaaDoorTexts
import Derived.Test.YteiginpjahmppaaDoorShelf
import Derived.Lib.Join
namespace Go.Proofs.YteiginpjahmppaaDoor
open Go.RowKit
set_option linter.unusedVariables false

/-- texts, one behind the other, with another one between -/
def joinB (l : List ByteArray) (sep : ByteArray) : ByteArray := ⟨(Lib.join (l.map (·.data.toList)) sep.data.toList).toArray⟩
set_option maxHeartbeats 1000000 in
theorem impl_Join (a : Option Addr) (c : Nat) (l : List ByteArray) (sep : ByteArray) (w : World) (hl : Lies w w.heap.size 1 a l.length (strs l)) (hc : l.length ≤ c) (hN : l.length ≤ 1099511627776) (hlen : (joinB l sep).size ≤ 1099511627776) :
    Calls Tryd.prog 30 #[.slice a l.length c, .string sep] w fun e w' => e = .returned (.string (joinB l sep)) ∧ Below w.heap.size w w' := by
  by_cases h0 : l.length = 0
  · obtain rfl : l = [] := List.length_eq_zero_iff.1 h0
    clear hl
    go_enter Tryd.func30, Tryd.ntmps30
    go_wp2_with fail
    refine (Tryd.strings_Join_none _ _ _ _).mono ?_; rintro e w1 ⟨rfl, rfl⟩
    go_wp2_with fail
    go_ret
    exact ⟨rfl, Below.refl _ _⟩
  · obtain ⟨g, o, rfl, hg, hcl⟩ := hl.2 (by omega)
    have HJ := Lib.hid (Tryd.strings_Join g o c l sep w (fun j x hx => by
      have hj : j < l.length := (List.getElem?_eq_some_iff.1 hx).1
      have hjs : j < (strs l).length := by simp [strs]; exact hj
      rw [hcl j hjs, strs_at hj hjs]
      rw [List.getElem?_eq_getElem hj] at hx; cases hx; rfl) hg (by omega) hc (by
        have : (joinB l sep).size = (Lib.join (l.map (·.data.toList)) sep.data.toList).length := by show (List.toArray _).size = _; simp
        omega))
    clear hl hcl
    go_enter Tryd.func30, Tryd.ntmps30
    go_wp2_with fail
    refine HJ.out.mono ?_; rintro e w1 ⟨rfl, hb1⟩
    go_wp2_with fail
    go_ret
    exact ⟨rfl, hb1⟩
end Go.Proofs.YteiginpjahmppaaDoor
