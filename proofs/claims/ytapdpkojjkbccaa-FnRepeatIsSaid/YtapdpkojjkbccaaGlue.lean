/-
  Contracts of what puts texts one behind the other: the reference's repeated and joined, the laws' glued. Conditions: what comes out is of at most 2^40 bytes; lists lie in memory.
-/
import Derived.Test.YtapdpkojjkbccaaMem
import Derived.Lib.AppendStr
import Derived.Lib.Repeat
import Derived.Lib.Join
namespace Go.Proofs.Ytapdpkojjkbccaa
open Go.RowKit
set_option linter.unusedVariables false

theorem Try.info8 : (Try.prog.info? 5).map (fun i => (i.zero, i.size, i.bytes)) = some (some (.int .u8 0), 1, 1) := by kernel_rfl
theorem bytes_snoc (l : List UInt8) (s : ByteArray) : l.map bcell ++ Lib.strCells s = (l ++ s.data.toList).map bcell := by rw [List.map_append]; rfl

set_option maxRecDepth 100000 in
set_option maxHeartbeats 1000000 in
theorem spec_repeated (s : ByteArray) (n : Nat) (w : World) (h : s.size * n ≤ 1099511627776) (hn : n ≤ 4611686018427387904) :
    Calls Try.prog 22 #[.string s, .int .i64 n] w fun e w' => e = .returned (.string ⟨(Lib.repeatL s.data.toList n).toArray⟩) ∧ Below w.heap.size w w' := by
  obtain ⟨i0, hi, hz0, hz1, hz2⟩ := info_parts Try.info8
  have HB0 := Lib.hid (show Below w.heap.size w (w.alloc (.cells #[] 5)) from (Below.refl _ w).alloc (Nat.le_refl _) _)
  have HO0 := Lib.hid (show (w.alloc (.cells #[] 5)).ownsRow w.heap.size 5 1 (.slice (some ⟨w.heap.size, 0, none⟩) 0 0) 0 [] from by
    have h0 := World.ownsRow_lit (base := w.heap.size) (e := 5) (size := 1) w #[] 0 (Nat.le_refl _) (Nat.zero_le _) rfl
    simpa using h0)
  go_enter Try.func22, Try.ntmps22
  go_wp2_with fail
  go_loopw [5, 6] (fun v vi wr => ∃ k : Nat, k ≤ n ∧ vi = .int .i64 (k : Int) ∧ Hid (wr.ownsRow w.heap.size 5 1 v (k * s.size) ((Lib.repeatL s.data.toList k).map bcell)) ∧ Hid (Below w.heap.size w wr)) (fun _ vi _ => n - (intOf vi).toNat)
  case atStart => exact ⟨0, Nat.zero_le _, rfl, by rw [Nat.zero_mul]; exact HO0.out, HB0.out⟩
  case round =>
    clear HO0 HB0
    obtain ⟨k, hk, rfl, HO, HB⟩ := hrel
    have hsz := HB.out.size
    by_cases hlt : k < n
    · have hb : k * s.size + s.size ≤ 1099511627776 := by
        have : s.size * (k + 1) ≤ s.size * n := Nat.mul_le_mul_left _ (by omega)
        rw [Nat.mul_add, Nat.mul_one, Nat.mul_comm] at this; omega
      have hrep : Lib.repeatL s.data.toList (k + 1) = Lib.repeatL s.data.toList k ++ s.data.toList := by rw [Lib.repeatL_add, Lib.repeatL_one]
      have HRP := Lib.hid hrep
      clear hrep
      go_wp2_with (at_builtin; refine Lib.wpList_append_own_string _ rfl _ _ 34 9 rfl w.heap.size 5 i0 Try.underlying34 Try.underlying9 hi hz0 hz1 hz2 u5 (k * s.size) ((Lib.repeatL s.data.toList k).map bcell) rfl HO.out s rfl (by unfold maxLen; omega) (by omega) hsz ?_; intro v' w3 hown3 hgrow3 hnil3)
      have HO3 := Lib.hid (show w3.ownsRow w.heap.size 5 1 v' ((k + 1) * s.size) ((Lib.repeatL s.data.toList (k + 1)).map bcell) by rw [HRP.out, ← bytes_snoc, Nat.add_mul, Nat.one_mul]; exact hown3)
      have HB3 := Lib.hid (HB.out.grown hgrow3 hsz (fun q e => (HO.out.lt q e).1))
      clear hown3 hgrow3 hnil3
      go_wp2_with fail
      exact ⟨⟨k + 1, by omega, rfl, HO3.out, HB3.out⟩, by simp [intOf]; omega⟩
    · obtain rfl : k = n := by omega
      have kc := conv_own (P := Try.prog) wr 34 9 5 Try.underlying34 Try.underlying5 Try.underlying9 HO.out
      go_wp2
      go_ret
      exact ⟨rfl, HB.out⟩
set_option maxHeartbeats 1000000 in
theorem spec_Repeat (s : ByteArray) (n : Nat) (w : World) (h : s.size * n ≤ 1099511627776) (hn : n ≤ 4611686018427387904) :
    Calls Try.prog 15 #[.string s, .int .i64 n] w fun e w' => e = .returned (.string ⟨(Lib.repeatL s.data.toList n).toArray⟩) ∧ Below w.heap.size w w' := by
  go_enter Try.func15, Try.ntmps15
  go_wp2_with fail
  refine (spec_repeated s n _ h hn).mono ?_; rintro e w1 ⟨rfl, hb1⟩
  go_wp2_with fail
  go_ret
  exact ⟨rfl, hb1⟩
end Go.Proofs.Ytapdpkojjkbccaa
