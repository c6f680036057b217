/-
  The contract of the laws' few: whether texts with another one between are within a bound of memory. Conditions: the list lies in memory; each text's length is a number.
-/
import Derived.Test.YtapdpkojjkbccaaTexts
namespace Go.Proofs.Ytapdpkojjkbccaa
open Go.RowKit
set_option linter.unusedVariables false

/-- how many bytes the texts have -/
def lensB (l : List ByteArray) : Nat := (l.map (·.size)).sum
theorem lensB_take (l : List ByteArray) (k : Nat) (h : k < l.length) : lensB (l.take (k + 1)) = lensB (l.take k) + l[k].size := by
  unfold lensB
  rw [List.take_succ_eq_append_getElem h, List.map_append, List.sum_append]
  simp only [List.map_cons, List.map_nil, List.sum_cons, List.sum_nil, Nat.add_zero]
structure Few (l : List ByteArray) (sep : ByteArray) : Prop where
  len : l.length ≤ 16777215
  sepl : sep.size ≤ 16777215
  mul : (l.length + 1) * (sep.size + 1) ≤ 16777216
  sum : lensB l ≤ 16777216

def FewAns (l : List ByteArray) (sep : ByteArray) (w : World) (e : Ending) (w' : World) : Prop := ∃ b, e = .returned (.bool b) ∧ (b = true → Few l sep) ∧ Dr w w'

set_option maxRecDepth 100000 in
set_option maxHeartbeats 2000000 in
theorem laws_few (a : Option Addr) (c : Nat) (l : List ByteArray) (sep : ByteArray) (w : World) (hl : Lies w w.heap.size 1 a l.length (strs l)) (hc : l.length ≤ 9223372036854775807) (hw : ∀ s ∈ l, s.size ≤ 9223372036854775807) (hs : sep.size ≤ 9223372036854775807) :
    Calls Try.prog 9 #[.slice a l.length c, .string sep] w (FewAns l sep w) := by
  by_cases h1 : (l.length : Int) < 16777216
  · by_cases h2 : (sep.size : Int) < 16777216
    · have hmul : ((l.length : Int) + 1) * ((sep.size : Int) + 1) = (((l.length + 1) * (sep.size + 1) : Nat) : Int) := by simp
      have hmb : (l.length + 1) * (sep.size + 1) ≤ 281474976710656 := Nat.le_trans (Nat.mul_le_mul (show l.length + 1 ≤ 16777216 by omega) (show sep.size + 1 ≤ 16777216 by omega)) (by decide)
      obtain ⟨m, hm⟩ : ∃ m, (l.length + 1) * (sep.size + 1) = m := ⟨_, rfl⟩
      have HM := Lib.hid hm
      rw [hm] at hmul hmb
      clear hm
      have hmi : (m : Int) ≤ 281474976710656 := by omega
      have hm0 : 0 ≤ (m : Int) := by omega
      generalize hM : (m : Int) = M at *
      have HMM := Lib.hid hM
      clear hM hmb
      have e1 : decide (16777216 ≤ (l.length : Int)) = false := by simp; omega
      have e2 : decide (16777216 ≤ (sep.size : Int)) = false := by simp; omega
      have hc2 : l.length ≤ 281474976710656 := by omega
      have hs2 : sep.size ≤ 281474976710656 := by omega
      have H1 := Lib.hid h1; have H2 := Lib.hid h2
      clear h1 h2 hc hs
      obtain ⟨A, hA⟩ : ∃ A : Int, (l.length : Int) + 1 = A := ⟨_, rfl⟩
      obtain ⟨B, hB⟩ : ∃ B : Int, (sep.size : Int) + 1 = B := ⟨_, rfl⟩
      rw [hA, hB] at hmul
      have bA : 1 ≤ A ∧ A ≤ 281474976710657 := by omega
      have bB : 1 ≤ B ∧ B ≤ 281474976710657 := by omega
      by_cases h3 : M ≤ 16777216
      · have e3 : decide (16777216 < M) = false := by simp; omega
        have H3 := Lib.hid h3
        clear h3
        have HW := Lib.hid hw
        have HL := Lib.hid hl
        clear hw hl
        go_enter Try.func9, Try.ntmps9
        go_wp2_with fail
        go_loopw [5, 28] (fun vn vi wr => ∃ k : Nat, k ≤ l.length ∧ vi = .int .i64 (k : Int) ∧ vn = .int .i64 (lensB (l.take k) : Int) ∧ lensB (l.take k) ≤ 16777216 ∧ Hid (Dr w wr)) (fun _ vi _ => l.length - (intOf vi).toNat)
        case atStart => exact ⟨0, Nat.zero_le _, rfl, rfl, Nat.zero_le _, Dr.refl _⟩
        case round =>
          obtain ⟨k, hk, rfl, rfl, hsum, HD⟩ := hrel
          by_cases hlt : k < l.length
          · have hlk : Lies wr w.heap.size 1 a l.length (strs l) := HL.out.below (HD.out.below _)
            obtain ⟨g, o, rfl, hg, hcl⟩ := hlk.2 (by omega)
            have hcell : wr.cell? ⟨g, o + k, none⟩ = some (.string l[k]) := by
              have hks : k < (strs l).length := by simp [strs]; exact hlt
              rw [hcl k hks, strs_at hlt hks]
            have hsz := HW.out _ (List.getElem_mem hlt)
            have hst := lensB_take l k hlt
            clear hlk hcl
            generalize l[k] = F at *
            generalize lensB (l.take k) = S at *
            have HST := Lib.hid hst
            clear hst
            obtain ⟨D, hD⟩ : ∃ D : Int, 16777216 - (S : Int) = D := ⟨_, rfl⟩
            have hDb : 0 ≤ D ∧ D ≤ 281474976710656 := by omega
            have hSb : S ≤ 281474976710656 := by omega
            have HS1 := Lib.hid hsum; have HDD := Lib.hid hD
            clear hsum
            by_cases hgt : D < (F.size : Int)
            · have e4 : decide (D < (F.size : Int)) = true := decide_eq_true hgt
              clear hgt
              go_wp2_with fail
              go_ret
              exact ⟨false, rfl, (fun h => by cases h), HD.out⟩
            · have e4 : decide (D < (F.size : Int)) = false := decide_eq_false hgt
              have HG := Lib.hid hgt
              have hFb : F.size ≤ 281474976710656 := by have := HS1.out; omega
              clear hgt hsz
              go_wp2_with fail
              exact ⟨⟨k + 1, by omega, rfl, by rw [HST.out]; simp, by rw [HST.out]; have := HG.out; have := HDD.out; have := HS1.out; omega, HD.out⟩, by simp [intOf]; omega⟩
          · obtain rfl : k = l.length := by omega
            rw [List.take_length] at hsum
            go_wp2_with fail
            go_ret
            exact ⟨true, rfl, fun _ => ⟨by have := H1.out; omega, by have := H2.out; omega, by rw [HM.out]; have := HMM.out; have := H3.out; omega, hsum⟩, HD.out⟩
      · have e3 : decide (16777216 < M) = true := by simp; omega
        clear hw hl h3
        go_enter Try.func9, Try.ntmps9
        go_wp2_with fail
        go_ret
        exact ⟨false, rfl, (fun h => by cases h), Dr.refl _⟩
    · clear hw hl
      go_enter Try.func9, Try.ntmps9
      go_wp2_with fail
      go_ret
      exact ⟨false, rfl, (fun h => by cases h), Dr.refl _⟩
  · clear hw hl
    go_enter Try.func9, Try.ntmps9
    go_wp2_with fail
    go_ret
    exact ⟨false, rfl, (fun h => by cases h), Dr.refl _⟩
end Go.Proofs.Ytapdpkojjkbccaa
