/-
  The contract of the reference's FieldsSeq. Condition: the text's length is at most 2^40.
-/
import Derived.Test.YteiginpjahmppaaDoorSpaceF
namespace Go.Proofs.YteiginpjahmppaaDoor
open Go.RowKit
set_option linter.unusedVariables false

set_option maxHeartbeats 1000000 in
theorem spec_FieldsSeq0 (s : ByteArray) (w : World) (hs : s.size ≤ 1099511627776) :
    Calls Tryd.prog 25 #[.string s] w (NewStrs (fieldsP Lib.isSpaceR s) w) := by
  have hbl := blank_len
  have CB := Lib.hid (spec_blank w)
  have CR := Lib.hid (fun (a : Option Addr) (c : Nat) (W : World) (h : Lies W W.heap.size 1 a (blankK 12289).length (ints (blankK 12289))) => (spec_runs a _ c (blankK 12289) false s W hs h hbl).mono (R' := NewStrs (fieldsP Lib.isSpaceR s) W) (fun e w' h => by rw [blank_fun] at h; exact h))
  generalize blankK 12289 = L at *
  go_enter Tryd.func25, Tryd.ntmps25
  go_wp2_with fail
  refine CB.out.mono ?_; rintro e w1 ⟨a, c, rfl, hl1, hb1⟩
  have B1 := Lib.hid hb1; have L1 := Lib.hid hl1; clear hb1 hl1
  go_wp2_with fail
  refine (CR.out a c _ L1.out).mono ?_; rintro e w2 ⟨g, c2, rfl, ho2, hb2⟩
  go_wp2_with fail
  go_ret
  exact ⟨g, c2, rfl, own_base ho2 B1.out.size, B1.out.trans (hb2.mono B1.out.size)⟩
theorem spec_FieldsSeq (s : ByteArray) (w : World) (hs : s.size ≤ 1099511627776) :
    Calls Tryd.prog 25 #[.string s] w (StrsAt (fieldsP Lib.isSpaceR s) w) :=
  (spec_FieldsSeq0 s w hs).mono fun e w' ⟨g, c, h1, h2, h3⟩ => ⟨_, c, h1, Lies.of_own h2, h3⟩
end Go.Proofs.YteiginpjahmppaaDoor
