/-
  The contract of the laws' same at two lists of the same texts. Condition: at most 2^46 texts.
-/
import Derived.Test.YteiginpjahmppaaDoorTexts
namespace Go.Proofs.YteiginpjahmppaaDoor
open Go.RowKit
set_option linter.unusedVariables false

set_option maxRecDepth 100000 in
set_option maxHeartbeats 1000000 in
theorem laws_same (a b : Option Addr) (c d : Nat) (l : List ByteArray) (w : World) (ha : Lies w w.heap.size 1 a l.length (strs l)) (hb : Lies w w.heap.size 1 b l.length (strs l)) (hlen : l.length ≤ 70368744177664) :
    Calls Tryd.prog 16 #[.slice a l.length c, .slice b l.length d] w fun e w' => e = .returned (.bool true) ∧ Dr w w' := by
  by_cases h0 : l.length = 0
  · rw [h0]
    clear ha hb
    go_enter Tryd.func16, Tryd.ntmps16
    go_wp2
    refine wp_loop_rounds 1 ?_; rw [rounds_succ]
    go_wp2
    go_ret
    exact ⟨rfl, Dr.refl _⟩
  · obtain ⟨g, o, rfl, hg, hc⟩ := ha.2 (by omega)
    obtain ⟨g', o', rfl, hg', hc'⟩ := hb.2 (by omega)
    have HC := Lib.hid hc; have HC' := Lib.hid hc'
    clear ha hb hc hc' h0
    go_enter Tryd.func16, Tryd.ntmps16
    go_wp2
    go_loopw [13] (fun vi wr => ∃ k : Nat, k ≤ l.length ∧ vi = .int .i64 (k : Int) ∧ Hid (Dr w wr)) (fun vi _ => l.length - (intOf vi).toNat)
    case atStart => exact ⟨0, Nat.zero_le _, rfl, Dr.refl _⟩
    case round =>
      obtain ⟨k, hk, rfl, HD⟩ := hrel
      by_cases hlt : k < l.length
      · have hks : k < (strs l).length := by simp [strs]; exact hlt
        have c1 : wr.cell? ⟨g, o + k, none⟩ = some (.string l[k]) := by
          obtain ⟨n, rfl⟩ := HD.out
          have := HC.out k hks
          rw [strs_at hlt] at this
          exact this
        have c2 : wr.cell? ⟨g', o' + k, none⟩ = some (.string l[k]) := by
          obtain ⟨n, rfl⟩ := HD.out
          have := HC'.out k hks
          rw [strs_at hlt] at this
          exact this
        have hk1 : (k : Int) < (l.length : Int) := by omega
        have hk0 : (0 : Int) ≤ (k : Int) := by omega
        go_wp2
        go_quiet (fail)
        go_wp2
        go_roundw
        case rel => exact ⟨k + 1, by omega, by go_num, HD.out.more _⟩
        case measure => simp [intOf]; omega
      · go_wp2
        go_ret
        exact ⟨rfl, HD.out⟩
end Go.Proofs.YteiginpjahmppaaDoor
