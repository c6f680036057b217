/-
  Contracts of the thin package's TrimSpace and Fields, and of the reference's. Conditions: the library's tables are as their initialisers lay them; the text's length is at most 2^31.
-/
import Derived.Test.YteiginpjahmppaaDoorBlank
namespace Go.Proofs.YteiginpjahmppaaDoor
open Go.RowKit
set_option linter.unusedVariables false

set_option maxHeartbeats 1000000 in
theorem impl_TrimSpace (s : ByteArray) (w : World) (hs : s.size ≤ 4611686018427387904) (hT : Tabs w) (hS : Spaces w) :
    Calls Tryd.prog 31 #[.string s] w fun e w' => e = .returned (.string (trimR Lib.isSpaceR (trimL Lib.isSpaceR s))) ∧ Below w.heap.size w w' := by
  have HC := Lib.hid (Tryd.strings_TrimSpace_any s w (by omega) hS.1 hT hS.2)
  have HE := Lib.hid (trimSpace_is s)
  clear hT hS
  go_enter Tryd.func31, Tryd.ntmps31
  go_wp2_with fail
  refine HC.out.mono ?_; rintro e w' ⟨rfl, hb⟩; rw [HE.out]
  go_wp2_with fail
  go_ret
  exact ⟨rfl, hb⟩
theorem strs_of (l : List (List UInt8)) : (l.map fun x => Value.string ⟨x.toArray⟩) = strs (l.map fun x => (⟨x.toArray⟩ : ByteArray)) := by simp [strs]
set_option maxHeartbeats 1000000 in
theorem impl_Fields (s : ByteArray) (w : World) (hs : s.size ≤ 2147483648) (hS : Spaces w) :
    Calls Tryd.prog 21 #[.string s] w (NewStrs (fieldsP Lib.isSpaceR s) w) := by
  have hc := Tryd.strings_Fields_any s w (by omega) hS.1 hS.2
  rw [strs_of, fields_is, show (Lib.fieldsD s.data.toList).length = (fieldsP Lib.isSpaceR s).length by rw [← fields_is]; simp] at hc
  have HC := Lib.hid hc
  clear hc hS
  go_enter Tryd.func21, Tryd.ntmps21
  go_wp2_with fail
  refine HC.out.mono ?_; rintro e w' ⟨A, rfl, hA, ho, hb⟩
  go_wp2_with fail
  go_ret
  exact ⟨A, _, rfl, ho, hb⟩
theorem blank_len : (blankK 12289).length ≤ 70368744177664 := Nat.le_trans (blankK_len _) (by decide)
set_option maxHeartbeats 1000000 in
theorem spec_Fields0 (s : ByteArray) (w : World) (hs : s.size ≤ 1099511627776) :
    Calls Tryd.prog 20 #[.string s] w (NewStrs (fieldsP Lib.isSpaceR s) w) := by
  have hbl := blank_len
  have CB := Lib.hid (spec_blank w)
  have CR := Lib.hid (fun (a : Option Addr) (c : Nat) (W : World) (h : Lies W W.heap.size 1 a (blankK 12289).length (ints (blankK 12289))) => (spec_runs a _ c (blankK 12289) false s W hs h hbl).mono (R' := NewStrs (fieldsP Lib.isSpaceR s) W) (fun e w' h => by rw [blank_fun] at h; exact h))
  generalize blankK 12289 = L at *
  go_enter Tryd.func20, Tryd.ntmps20
  go_wp2_with fail
  refine CB.out.mono ?_; rintro e w1 ⟨a, c, rfl, hl1, hb1⟩
  have B1 := Lib.hid hb1; have L1 := Lib.hid hl1; clear hb1 hl1
  go_wp2_with fail
  refine (CR.out a c _ L1.out).mono ?_; rintro e w2 ⟨g, c2, rfl, ho2, hb2⟩
  go_wp2_with fail
  go_ret
  exact ⟨g, c2, rfl, own_base ho2 B1.out.size, B1.out.trans (hb2.mono B1.out.size)⟩
/-- a list of texts, somewhere in memory -/
def StrsAt (l : List ByteArray) (w : World) (e : Ending) (w' : World) : Prop :=
  ∃ a c, e = .returned (.slice a l.length c) ∧ Lies w' w'.heap.size 1 a l.length (strs l) ∧ Below w.heap.size w w'
theorem spec_Fields (s : ByteArray) (w : World) (hs : s.size ≤ 1099511627776) :
    Calls Tryd.prog 20 #[.string s] w (StrsAt (fieldsP Lib.isSpaceR s) w) :=
  (spec_Fields0 s w hs).mono fun e w' ⟨g, c, h1, h2, h3⟩ => ⟨_, c, h1, Lies.of_own h2, h3⟩
set_option maxHeartbeats 1000000 in
theorem spec_TrimSpace (s : ByteArray) (w : World) (hs : s.size ≤ 1099511627776) :
    Calls Tryd.prog 28 #[.string s] w fun e w' => e = .returned (.string (trimR Lib.isSpaceR (trimL Lib.isSpaceR s))) ∧ Below w.heap.size w w' := by
  have hbl := blank_len
  have CB := Lib.hid spec_blank
  have CL := Lib.hid (fun (a : Option Addr) (c : Nat) (W : World) (h : Lies W W.heap.size 1 a (blankK 12289).length (ints (blankK 12289))) => (spec_trimLeft a _ c (blankK 12289) false s W hs h hbl).mono (R' := fun e w' => e = .returned (.string (trimL Lib.isSpaceR s)) ∧ Below W.heap.size W w') (fun e w' h => by rw [blank_fun] at h; exact h))
  have CR := Lib.hid (fun (t : ByteArray) (ht : t.size ≤ 1099511627776) (a : Option Addr) (c : Nat) (W : World) (h : Lies W W.heap.size 1 a (blankK 12289).length (ints (blankK 12289))) => (spec_trimRight a _ c (blankK 12289) false t W ht h hbl).mono (R' := fun e w' => e = .returned (.string (trimR Lib.isSpaceR t)) ∧ Below W.heap.size W w') (fun e w' h => by rw [blank_fun] at h; exact h))
  have hsz := Nat.le_trans (trimL_size Lib.isSpaceR s) hs
  generalize blankK 12289 = L at *
  go_enter Tryd.func28, Tryd.ntmps28
  go_wp2_with fail
  refine (CB.out _).mono ?_; rintro e w1 ⟨a, c, rfl, hl1, hb1⟩
  have B1 := Lib.hid hb1; have L1 := Lib.hid hl1; clear hb1 hl1
  go_wp2_with fail
  refine (CL.out a c _ L1.out).mono ?_; rintro e w2 ⟨rfl, hb2⟩
  have B2 := Lib.hid (B1.out.trans (hb2.mono B1.out.size)); clear hb2
  generalize ht : trimL Lib.isSpaceR s = t at *
  have HTt := Lib.hid ht; clear ht
  go_wp2_with fail
  refine (CB.out _).mono ?_; rintro e w3 ⟨a3, c3, rfl, hl3, hb3⟩
  have B3 := Lib.hid (B2.out.trans (hb3.mono B2.out.size)); have L3 := Lib.hid hl3; clear hb3 hl3
  go_wp2_with fail
  refine (CR.out t hsz a3 c3 _ L3.out).mono ?_; rintro e w4 ⟨rfl, hb4⟩
  have B4 := Lib.hid (B3.out.trans (hb4.mono B3.out.size)); clear hb4
  go_wp2_with fail
  go_ret
  exact ⟨ret_str (by rw [HTt.out]), B4.out⟩
end Go.Proofs.YteiginpjahmppaaDoor
