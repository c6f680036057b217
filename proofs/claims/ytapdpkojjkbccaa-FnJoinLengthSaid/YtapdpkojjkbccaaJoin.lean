/-
  The contract of impl.Join at the seat's numbers. Conditions: the list lies in memory; what comes out is within one block of memory.
-/
import Derived.Test.YtapdpkojjkbccaaTexts
import Derived.Test.YtapdpkojjkbccaaFew
import Derived.Test.YtapdpkojjkbccaaGlue
import Derived.Test.YtapdpkojjkbccaaShelf
import Derived.Lib.Join
namespace Go.Proofs.Ytapdpkojjkbccaa
open Go.RowKit
set_option linter.unusedVariables false

/-- texts, one behind the other, with another one between -/
def joinB (l : List ByteArray) (sep : ByteArray) : ByteArray := ⟨(Lib.join (l.map (·.data.toList)) sep.data.toList).toArray⟩
set_option maxHeartbeats 1000000 in
theorem impl_Join (a : Option Addr) (c : Nat) (l : List ByteArray) (sep : ByteArray) (w : World) (hl : Lies w w.heap.size 1 a l.length (strs l)) (hc : l.length ≤ c) (hN : l.length ≤ 1099511627776) (hlen : (joinB l sep).size ≤ 1099511627776) :
    Calls Try.prog 10 #[.slice a l.length c, .string sep] w fun e w' => e = .returned (.string (joinB l sep)) ∧ Below w.heap.size w w' := by
  by_cases h0 : l.length = 0
  · obtain rfl : l = [] := List.length_eq_zero_iff.1 h0
    clear hl
    go_enter Try.func10, Try.ntmps10
    go_wp2_with fail
    refine (Try.strings_Join_none _ _ _ _).mono ?_; rintro e w1 ⟨rfl, rfl⟩
    go_wp2_with fail
    go_ret
    exact ⟨rfl, Below.refl _ _⟩
  · obtain ⟨g, o, rfl, hg, hcl⟩ := hl.2 (by omega)
    have HJ := Lib.hid (Try.strings_Join g o c l sep w (fun j x hx => by
      have hj : j < l.length := (List.getElem?_eq_some_iff.1 hx).1
      have hjs : j < (strs l).length := by simp [strs]; exact hj
      rw [hcl j hjs, strs_at hj hjs]
      rw [List.getElem?_eq_getElem hj] at hx; cases hx; rfl) hg (by omega) hc (by
        have : (joinB l sep).size = (Lib.join (l.map (·.data.toList)) sep.data.toList).length := by show (List.toArray _).size = _; simp
        omega))
    clear hl hcl
    go_enter Try.func10, Try.ntmps10
    go_wp2_with fail
    refine HJ.out.mono ?_; rintro e w1 ⟨rfl, hb1⟩
    go_wp2_with fail
    go_ret
    exact ⟨rfl, hb1⟩
theorem lens_is (l : List ByteArray) : Lib.lens (l.map (·.data.toList)) = lensB l := by
  induction l with
  | nil => rfl
  | cons x r ih =>
    simp only [Lib.lens, lensB, List.map_cons, List.sum_cons] at ih ⊢
    rw [ih, len_data]
theorem few_join {l : List ByteArray} {sep : ByteArray} (h : Few l sep) : (joinB l sep).size ≤ 33554432 := by
  have hs : (joinB l sep).size = (Lib.join (l.map (·.data.toList)) sep.data.toList).length := by show (List.toArray _).size = _; simp
  rw [hs]
  cases l with
  | nil => simp [Lib.join_nil]
  | cons x r =>
    rw [List.map_cons, Lib.join_length, ← List.map_cons (f := fun s : ByteArray => s.data.toList), lens_is, len_data, List.length_map]
    have h1 := h.mul; have h2 := h.sum
    have h3 : sep.size * r.length ≤ ((x :: r).length + 1) * (sep.size + 1) := by
      rw [Nat.mul_comm]; exact Nat.mul_le_mul (by simp; omega) (by omega)
    omega
theorem joinK_all (l : List ByteArray) (sep : ByteArray) : (⟨(joinK l sep l.length).toArray⟩ : ByteArray) = joinB l sep := by
  unfold joinK joinB; rw [List.take_length]
theorem joinK_size (l : List ByteArray) (sep : ByteArray) : (joinK l sep l.length).length = (joinB l sep).size := by
  rw [← joinK_all]; show _ = (List.toArray _).size; simp
theorem strs_one (l : List ByteArray) : ∀ u ∈ strs l, u.oneCell' = true := by
  intro u hu; obtain ⟨x, _, rfl⟩ := List.mem_map.1 hu; rfl
end Go.Proofs.Ytapdpkojjkbccaa
