/-
  Contracts of what puts texts one behind the other: the reference's repeated and joined, the laws' glued. Conditions: what comes out is of at most 2^40 bytes; lists lie in memory.
-/
import Derived.Test.YtapdpkojjkbccaaTexts
import Derived.Lib.AppendStr
import Derived.Lib.Repeat
import Derived.Lib.Join
namespace Go.Proofs.Ytapdpkojjkbccaa
open Go.RowKit
set_option linter.unusedVariables false

theorem Try.info8 : (Try.prog.info? 5).map (fun i => (i.zero, i.size, i.bytes)) = some (some (.int .u8 0), 1, 1) := by kernel_rfl
theorem bytes_snoc (l : List UInt8) (s : ByteArray) : l.map bcell ++ Lib.strCells s = (l ++ s.data.toList).map bcell := by rw [List.map_append]; rfl

set_option maxRecDepth 100000 in
set_option maxHeartbeats 1000000 in
theorem spec_repeated (s : ByteArray) (n : Nat) (w : World) (h : s.size * n ≤ 1099511627776) (hn : n ≤ 4611686018427387904) :
    Calls Try.prog 22 #[.string s, .int .i64 n] w fun e w' => e = .returned (.string ⟨(Lib.repeatL s.data.toList n).toArray⟩) ∧ Below w.heap.size w w' := by
  obtain ⟨i0, hi, hz0, hz1, hz2⟩ := info_parts Try.info8
  have HB0 := Lib.hid (show Below w.heap.size w (w.alloc (.cells #[] 5)) from (Below.refl _ w).alloc (Nat.le_refl _) _)
  have HO0 := Lib.hid (show (w.alloc (.cells #[] 5)).ownsRow w.heap.size 5 1 (.slice (some ⟨w.heap.size, 0, none⟩) 0 0) 0 [] from by
    have h0 := World.ownsRow_lit (base := w.heap.size) (e := 5) (size := 1) w #[] 0 (Nat.le_refl _) (Nat.zero_le _) rfl
    simpa using h0)
  go_enter Try.func22, Try.ntmps22
  go_wp2_with fail
  go_loopw [5, 6] (fun v vi wr => ∃ k : Nat, k ≤ n ∧ vi = .int .i64 (k : Int) ∧ Hid (wr.ownsRow w.heap.size 5 1 v (k * s.size) ((Lib.repeatL s.data.toList k).map bcell)) ∧ Hid (Below w.heap.size w wr)) (fun _ vi _ => n - (intOf vi).toNat)
  case atStart => exact ⟨0, Nat.zero_le _, rfl, by rw [Nat.zero_mul]; exact HO0.out, HB0.out⟩
  case round =>
    clear HO0 HB0
    obtain ⟨k, hk, rfl, HO, HB⟩ := hrel
    have hsz := HB.out.size
    by_cases hlt : k < n
    · have hb : k * s.size + s.size ≤ 1099511627776 := by
        have : s.size * (k + 1) ≤ s.size * n := Nat.mul_le_mul_left _ (by omega)
        rw [Nat.mul_add, Nat.mul_one, Nat.mul_comm] at this; omega
      have hrep : Lib.repeatL s.data.toList (k + 1) = Lib.repeatL s.data.toList k ++ s.data.toList := by rw [Lib.repeatL_add, Lib.repeatL_one]
      have HRP := Lib.hid hrep
      clear hrep
      go_wp2_with (at_builtin; refine Lib.wpList_append_own_string _ rfl _ _ 34 9 rfl w.heap.size 5 i0 Try.underlying34 Try.underlying9 hi hz0 hz1 hz2 u5 (k * s.size) ((Lib.repeatL s.data.toList k).map bcell) rfl HO.out s rfl (by unfold maxLen; omega) (by omega) hsz ?_; intro v' w3 hown3 hgrow3 hnil3)
      have HO3 := Lib.hid (show w3.ownsRow w.heap.size 5 1 v' ((k + 1) * s.size) ((Lib.repeatL s.data.toList (k + 1)).map bcell) by rw [HRP.out, ← bytes_snoc, Nat.add_mul, Nat.one_mul]; exact hown3)
      have HB3 := Lib.hid (HB.out.grown hgrow3 hsz (fun q e => (HO.out.lt q e).1))
      clear hown3 hgrow3 hnil3
      go_wp2_with fail
      exact ⟨⟨k + 1, by omega, rfl, HO3.out, HB3.out⟩, by simp [intOf]; omega⟩
    · obtain rfl : k = n := by omega
      have kc := conv_own (P := Try.prog) wr 34 9 5 Try.underlying34 Try.underlying5 Try.underlying9 HO.out
      go_wp2
      go_ret
      exact ⟨rfl, HB.out⟩
set_option maxHeartbeats 1000000 in
theorem spec_Repeat (s : ByteArray) (n : Nat) (w : World) (h : s.size * n ≤ 1099511627776) (hn : n ≤ 4611686018427387904) :
    Calls Try.prog 15 #[.string s, .int .i64 n] w fun e w' => e = .returned (.string ⟨(Lib.repeatL s.data.toList n).toArray⟩) ∧ Below w.heap.size w w' := by
  go_enter Try.func15, Try.ntmps15
  go_wp2_with fail
  refine (spec_repeated s n _ h hn).mono ?_; rintro e w1 ⟨rfl, hb1⟩
  go_wp2_with fail
  go_ret
  exact ⟨rfl, hb1⟩
/-- the first texts of a list, joined -/
def joinK (l : List ByteArray) (sep : ByteArray) (k : Nat) : List UInt8 := Lib.join ((l.take k).map (·.data.toList)) sep.data.toList
theorem joinK_one (l : List ByteArray) (sep : ByteArray) (h : 0 < l.length) : joinK l sep 1 = l[0].data.toList := by
  cases l with
  | nil => simp at h
  | cons x r => simp [joinK, Lib.join_one]
theorem joinK_succ (l : List ByteArray) (sep : ByteArray) (k : Nat) (h0 : 0 < k) (h : k < l.length) : joinK l sep (k + 1) = joinK l sep k ++ sep.data.toList ++ l[k].data.toList := by
  cases l with
  | nil => simp at h
  | cons x r =>
    obtain ⟨m, rfl⟩ : ∃ m, k = m + 1 := ⟨k - 1, by omega⟩
    simp only [joinK, List.take_succ_cons, List.map_cons, Lib.join_cons]
    rw [List.map_take, List.map_take, Lib.joinTail_take_succ _ _ m (r[m]'(by simpa using h)).data.toList (by simp at h; simp [h])]
    simp
theorem joinK_le (l : List ByteArray) (sep : ByteArray) (k : Nat) : (joinK l sep k).length ≤ (joinK l sep l.length).length := by
  cases l with
  | nil => simp [joinK]
  | cons x r =>
    cases k with
    | zero => simp [joinK, Lib.join_nil]
    | succ k =>
      have := Lib.joinTail_take_le sep.data.toList (r.map (·.data.toList)) k
      simp only [joinK, List.take_succ_cons, List.map_cons, Lib.join_cons, List.length_append, List.length_cons, List.take_length]
      rw [List.map_take]; omega
set_option maxRecDepth 100000 in
set_option maxHeartbeats 2000000 in
theorem spec_joined (a : Option Addr) (c : Nat) (l : List ByteArray) (sep : ByteArray) (w : World) (hl : Lies w w.heap.size 1 a l.length (strs l)) (hc : l.length ≤ 1099511627776) (hlen : (joinK l sep l.length).length ≤ 1099511627776) :
    Calls Try.prog 17 #[.slice a l.length c, .string sep] w fun e w' => e = .returned (.string ⟨(joinK l sep l.length).toArray⟩) ∧ Below w.heap.size w w' := by
  obtain ⟨i0, hi, hz0, hz1, hz2⟩ := info_parts Try.info8
  have HB0 := Lib.hid (show Below w.heap.size w (w.alloc (.cells #[] 5)) from (Below.refl _ w).alloc (Nat.le_refl _) _)
  have HO0 := Lib.hid (show (w.alloc (.cells #[] 5)).ownsRow w.heap.size 5 1 (.slice (some ⟨w.heap.size, 0, none⟩) 0 0) 0 [] from by
    have h0 := World.ownsRow_lit (base := w.heap.size) (e := 5) (size := 1) w #[] 0 (Nat.le_refl _) (Nat.zero_le _) rfl
    simpa using h0)
  have HL := Lib.hid hl
  have HJL := Lib.hid (fun k => Nat.le_trans (joinK_le l sep k) hlen)
  clear hl hlen
  go_enter Try.func17, Try.ntmps17
  go_wp2_with fail
  go_loopw [5, 6] (fun v vi wr => ∃ k : Nat, k ≤ l.length ∧ vi = .int .i64 (k : Int) ∧ Hid (wr.ownsRow w.heap.size 5 1 v (joinK l sep k).length ((joinK l sep k).map bcell)) ∧ Hid (Below w.heap.size w wr)) (fun _ vi _ => l.length - (intOf vi).toNat)
  case atStart => exact ⟨0, Nat.zero_le _, rfl, HO0.out, HB0.out⟩
  case round =>
    clear HO0 HB0
    obtain ⟨k, hk, rfl, HO, HB⟩ := hrel
    have hsz := HB.out.size
    by_cases hlt : k < l.length
    · obtain ⟨g, o, rfl, hg, hcl⟩ := (HL.out.below HB.out).2 (by omega)
      have hks : k < (strs l).length := by simp [strs]; exact hlt
      have hcell : wr.cell? ⟨g, o + k, none⟩ = some (.string l[k]) := by rw [hcl k hks, strs_at hlt hks]
      have hgw : g < wr.heap.size := Nat.lt_of_lt_of_le hg hsz
      have hb2 := HJL.out (k + 1)
      have hb1 := HJL.out k
      clear hcl hks
      by_cases h0 : k = 0
      · subst h0
        have hj1 := joinK_one l sep (by omega)
        have hj0 : joinK l sep 0 = [] := rfl
        rw [hj1] at hb2
        have hFs : l[0].size ≤ 1099511627776 := by rw [← len_data]; exact hb2
        have HJ1 := Lib.hid hj1; have HJ0 := Lib.hid hj0
        clear hj1 hj0 hb1 hb2
        generalize hF : l[0] = F at *
        rw [Nat.add_zero] at hcell
        have HO' := Lib.hid (show wr.ownsRow w.heap.size 5 1 u5 0 [] from HO.out)
        go_wp2_with (at_builtin; refine Lib.wpList_append_own_string _ rfl _ _ 34 9 rfl w.heap.size 5 i0 Try.underlying34 Try.underlying9 hi hz0 hz1 hz2 u5 0 [] rfl HO'.out F rfl (by unfold maxLen; omega) (by omega) hsz ?_; intro v' w3 hown3 hgrow3 hnil3)
        have HO3 := Lib.hid (show w3.ownsRow w.heap.size 5 1 v' (joinK l sep (0 + 1)).length ((joinK l sep (0 + 1)).map bcell) by
          rw [HJ1.out, len_data]; have h3 := hown3; rw [Nat.zero_add, List.nil_append] at h3; exact h3)
        have HB3 := Lib.hid (HB.out.grown hgrow3 hsz (fun q e => (HO.out.lt q e).1))
        clear hown3 hgrow3 hnil3
        go_wp2_with fail
        exact ⟨⟨0 + 1, by omega, rfl, HO3.out, HB3.out⟩, by simp [intOf]; omega⟩
      · have hj1 := joinK_succ l sep k (by omega) hlt
        rw [hj1, List.length_append, List.length_append, len_data, len_data] at hb2
        have HJ1 := Lib.hid hj1
        clear hj1 hb1
        generalize hF : l[k] = F at *
        have hkp : 0 < k := by omega
        generalize hJk : joinK l sep k = J at *
        go_wp2_with (at_builtin; first
          | (refine Lib.wpList_append_own_string _ rfl _ _ 34 9 rfl w.heap.size 5 i0 Try.underlying34 Try.underlying9 hi hz0 hz1 hz2 u5 J.length (J.map bcell) rfl HO.out sep rfl (by unfold maxLen; omega) (by omega) hsz ?_; intro v' w3 hown3 hgrow3 hnil3; have HO3 := Lib.hid (show w3.ownsRow w.heap.size 5 1 v' (J ++ sep.data.toList).length ((J ++ sep.data.toList).map bcell) by rw [← bytes_snoc, List.length_append, len_data]; exact hown3); have HB3 := Lib.hid (HB.out.grown hgrow3 hsz (fun q e => (HO.out.lt q e).1)); have hc3 := (World.cell?_of_block (hgrow3.block g hgw (fun e => by have := (HO.out.lt g e.symm).1; omega))).trans hcell; have hs3 := HB3.out.size; clear hown3 hgrow3 hnil3)
          | (refine Lib.wpList_append_own_string _ rfl _ _ 34 9 rfl w.heap.size 5 i0 Try.underlying34 Try.underlying9 hi hz0 hz1 hz2 v' (J ++ sep.data.toList).length ((J ++ sep.data.toList).map bcell) rfl HO3.out F rfl (by rw [List.length_append, len_data]; unfold maxLen; omega) (by rw [List.length_append, len_data]; omega) hs3 ?_; intro v'' w4 hown4 hgrow4 hnil4))
        have HO4 := Lib.hid (show w4.ownsRow w.heap.size 5 1 v'' (joinK l sep (k + 1)).length ((joinK l sep (k + 1)).map bcell) by
          rw [HJ1.out, ← bytes_snoc, List.length_append, len_data]; exact hown4)
        have HB4 := Lib.hid (HB3.out.grown hgrow4 hs3 (fun q e => (HO3.out.lt q e).1))
        clear hown4 hgrow4 hnil4
        go_wp2_with fail
        exact ⟨⟨k + 1, by omega, rfl, HO4.out, HB4.out⟩, by simp [intOf]; omega⟩
    · obtain rfl : k = l.length := by omega
      have kc := conv_own (P := Try.prog) wr 34 9 5 Try.underlying34 Try.underlying5 Try.underlying9 HO.out
      go_wp2
      go_ret
      exact ⟨rfl, HB.out⟩
set_option maxHeartbeats 1000000 in
theorem spec_Join (a : Option Addr) (c : Nat) (l : List ByteArray) (sep : ByteArray) (w : World) (hl : Lies w w.heap.size 1 a l.length (strs l)) (hc : l.length ≤ 1099511627776) (hlen : (joinK l sep l.length).length ≤ 1099511627776) :
    Calls Try.prog 11 #[.slice a l.length c, .string sep] w fun e w' => e = .returned (.string ⟨(joinK l sep l.length).toArray⟩) ∧ Below w.heap.size w w' := by
  have HJ := Lib.hid (spec_joined a c l sep w hl hc hlen)
  clear hl hlen
  go_enter Try.func11, Try.ntmps11
  go_wp2_with fail
  refine HJ.out.mono ?_; rintro e w1 ⟨rfl, hb1⟩
  go_wp2_with fail
  go_ret
  exact ⟨rfl, hb1⟩
end Go.Proofs.Ytapdpkojjkbccaa
