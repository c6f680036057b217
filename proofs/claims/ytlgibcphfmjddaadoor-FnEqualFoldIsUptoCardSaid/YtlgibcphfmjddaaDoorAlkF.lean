/-
  The contract of the reference's Fold. No condition.
-/
import Derived.Test.YtlgibcphfmjddaaDoorAlk
namespace Go.Proofs.YtlgibcphfmjddaaDoor
open Go.Lib Go.RowKit
set_option linter.unusedVariables false

/-- what Fold returns -/
def foldV (r : Nat) : Value := match foldN r with
  | some x => .tuple #[.int .i32 (x : Int), .bool true]
  | none => .tuple #[.int .i32 0, .bool false]
set_option maxRecDepth 100000 in
set_option maxHeartbeats 4000000 in
theorem spec_Fold (r : Nat) (hr : r ≤ 1114111) (w : World) : Calls Tryd.prog 73 #[.int .i32 (r : Int)] w fun e w' => e = .returned (foldV r) ∧ w' = w := by
  have c0 : 0 ≤ r → r ≤ 64 → Calls Tryd.prog 73 #[.int .i32 (r : Int)] w fun e w' => e = .returned (foldV r) ∧ w' = w := fun h1 h2 => by
    have hf : foldN r = some (r) := by
      unfold foldN
      repeat first | rw [if_neg (by omega)] | rw [if_pos (by omega)]
    have hv : foldV r = .tuple #[.int .i32 ((r : Nat) : Int), .bool true] := by unfold foldV; rw [hf]
    rw [hv]
    clear hf hv
    have e181 : ((r : Int) == 181) = false := beq_eq_false_iff_ne.2 (by omega)
    have e215 : ((r : Int) == 215) = false := beq_eq_false_iff_ne.2 (by omega)
    have e930 : ((r : Int) == 930) = false := beq_eq_false_iff_ne.2 (by omega)
    have e962 : ((r : Int) == 962) = false := beq_eq_false_iff_ne.2 (by omega)
    have n215 : ((r : Int) != 215) = true := bne_iff_ne.2 (by omega)
    go_enter Tryd.func73, Tryd.ntmps73
    go_wp2
    go_ret2
    exact ⟨by first | rfl | (simp; done) | (simp; omega), rfl⟩
  have c1 : 65 ≤ r → r ≤ 90 → Calls Tryd.prog 73 #[.int .i32 (r : Int)] w fun e w' => e = .returned (foldV r) ∧ w' = w := fun h1 h2 => by
    have hf : foldN r = some (r + 32) := by
      unfold foldN
      repeat first | rw [if_neg (by omega)] | rw [if_pos (by omega)]
    have hv : foldV r = .tuple #[.int .i32 ((r + 32 : Nat) : Int), .bool true] := by unfold foldV; rw [hf]
    rw [hv]
    clear hf hv
    have e181 : ((r : Int) == 181) = false := beq_eq_false_iff_ne.2 (by omega)
    have e215 : ((r : Int) == 215) = false := beq_eq_false_iff_ne.2 (by omega)
    have e930 : ((r : Int) == 930) = false := beq_eq_false_iff_ne.2 (by omega)
    have e962 : ((r : Int) == 962) = false := beq_eq_false_iff_ne.2 (by omega)
    have n215 : ((r : Int) != 215) = true := bne_iff_ne.2 (by omega)
    go_enter Tryd.func73, Tryd.ntmps73
    go_wp2
    go_ret2
    exact ⟨by first | rfl | (simp; done) | (simp; omega), rfl⟩
  have c2 : 91 ≤ r → r ≤ 180 → Calls Tryd.prog 73 #[.int .i32 (r : Int)] w fun e w' => e = .returned (foldV r) ∧ w' = w := fun h1 h2 => by
    have hf : foldN r = some (r) := by
      unfold foldN
      repeat first | rw [if_neg (by omega)] | rw [if_pos (by omega)]
    have hv : foldV r = .tuple #[.int .i32 ((r : Nat) : Int), .bool true] := by unfold foldV; rw [hf]
    rw [hv]
    clear hf hv
    have e181 : ((r : Int) == 181) = false := beq_eq_false_iff_ne.2 (by omega)
    have e215 : ((r : Int) == 215) = false := beq_eq_false_iff_ne.2 (by omega)
    have e930 : ((r : Int) == 930) = false := beq_eq_false_iff_ne.2 (by omega)
    have e962 : ((r : Int) == 962) = false := beq_eq_false_iff_ne.2 (by omega)
    have n215 : ((r : Int) != 215) = true := bne_iff_ne.2 (by omega)
    go_enter Tryd.func73, Tryd.ntmps73
    go_wp2
    go_ret2
    exact ⟨by first | rfl | (simp; done) | (simp; omega), rfl⟩
  have c3 : 181 ≤ r → r ≤ 181 → Calls Tryd.prog 73 #[.int .i32 (r : Int)] w fun e w' => e = .returned (foldV r) ∧ w' = w := fun h1 h2 => by
    have hf : foldN r = some (956) := by
      unfold foldN
      repeat first | rw [if_neg (by omega)] | rw [if_pos (by omega)]
    have hv : foldV r = .tuple #[.int .i32 ((956 : Nat) : Int), .bool true] := by unfold foldV; rw [hf]
    rw [hv]
    clear hf hv
    obtain rfl : r = 181 := by omega
    go_enter Tryd.func73, Tryd.ntmps73
    go_wp2
    go_ret2
    exact ⟨by first | rfl | (simp; done) | (simp; omega), rfl⟩
  have c4 : 182 ≤ r → r ≤ 191 → Calls Tryd.prog 73 #[.int .i32 (r : Int)] w fun e w' => e = .returned (foldV r) ∧ w' = w := fun h1 h2 => by
    have hf : foldN r = some (r) := by
      unfold foldN
      repeat first | rw [if_neg (by omega)] | rw [if_pos (by omega)]
    have hv : foldV r = .tuple #[.int .i32 ((r : Nat) : Int), .bool true] := by unfold foldV; rw [hf]
    rw [hv]
    clear hf hv
    have e181 : ((r : Int) == 181) = false := beq_eq_false_iff_ne.2 (by omega)
    have e215 : ((r : Int) == 215) = false := beq_eq_false_iff_ne.2 (by omega)
    have e930 : ((r : Int) == 930) = false := beq_eq_false_iff_ne.2 (by omega)
    have e962 : ((r : Int) == 962) = false := beq_eq_false_iff_ne.2 (by omega)
    have n215 : ((r : Int) != 215) = true := bne_iff_ne.2 (by omega)
    go_enter Tryd.func73, Tryd.ntmps73
    go_wp2
    go_ret2
    exact ⟨by first | rfl | (simp; done) | (simp; omega), rfl⟩
  have c5 : 192 ≤ r → r ≤ 214 → Calls Tryd.prog 73 #[.int .i32 (r : Int)] w fun e w' => e = .returned (foldV r) ∧ w' = w := fun h1 h2 => by
    have hf : foldN r = some (r + 32) := by
      unfold foldN
      repeat first | rw [if_neg (by omega)] | rw [if_pos (by omega)]
    have hv : foldV r = .tuple #[.int .i32 ((r + 32 : Nat) : Int), .bool true] := by unfold foldV; rw [hf]
    rw [hv]
    clear hf hv
    have e181 : ((r : Int) == 181) = false := beq_eq_false_iff_ne.2 (by omega)
    have e215 : ((r : Int) == 215) = false := beq_eq_false_iff_ne.2 (by omega)
    have e930 : ((r : Int) == 930) = false := beq_eq_false_iff_ne.2 (by omega)
    have e962 : ((r : Int) == 962) = false := beq_eq_false_iff_ne.2 (by omega)
    have n215 : ((r : Int) != 215) = true := bne_iff_ne.2 (by omega)
    go_enter Tryd.func73, Tryd.ntmps73
    go_wp2
    go_ret2
    exact ⟨by first | rfl | (simp; done) | (simp; omega), rfl⟩
  have c6 : 215 ≤ r → r ≤ 215 → Calls Tryd.prog 73 #[.int .i32 (r : Int)] w fun e w' => e = .returned (foldV r) ∧ w' = w := fun h1 h2 => by
    have hf : foldN r = some (r) := by
      unfold foldN
      repeat first | rw [if_neg (by omega)] | rw [if_pos (by omega)]
    have hv : foldV r = .tuple #[.int .i32 ((r : Nat) : Int), .bool true] := by unfold foldV; rw [hf]
    rw [hv]
    clear hf hv
    obtain rfl : r = 215 := by omega
    go_enter Tryd.func73, Tryd.ntmps73
    go_wp2
    go_ret2
    exact ⟨by first | rfl | (simp; done) | (simp; omega), rfl⟩
  have c7 : 216 ≤ r → r ≤ 222 → Calls Tryd.prog 73 #[.int .i32 (r : Int)] w fun e w' => e = .returned (foldV r) ∧ w' = w := fun h1 h2 => by
    have hf : foldN r = some (r + 32) := by
      unfold foldN
      repeat first | rw [if_neg (by omega)] | rw [if_pos (by omega)]
    have hv : foldV r = .tuple #[.int .i32 ((r + 32 : Nat) : Int), .bool true] := by unfold foldV; rw [hf]
    rw [hv]
    clear hf hv
    have e181 : ((r : Int) == 181) = false := beq_eq_false_iff_ne.2 (by omega)
    have e215 : ((r : Int) == 215) = false := beq_eq_false_iff_ne.2 (by omega)
    have e930 : ((r : Int) == 930) = false := beq_eq_false_iff_ne.2 (by omega)
    have e962 : ((r : Int) == 962) = false := beq_eq_false_iff_ne.2 (by omega)
    have n215 : ((r : Int) != 215) = true := bne_iff_ne.2 (by omega)
    go_enter Tryd.func73, Tryd.ntmps73
    go_wp2
    go_ret2
    exact ⟨by first | rfl | (simp; done) | (simp; omega), rfl⟩
  have c8 : 223 ≤ r → r ≤ 255 → Calls Tryd.prog 73 #[.int .i32 (r : Int)] w fun e w' => e = .returned (foldV r) ∧ w' = w := fun h1 h2 => by
    have hf : foldN r = some (r) := by
      unfold foldN
      repeat first | rw [if_neg (by omega)] | rw [if_pos (by omega)]
    have hv : foldV r = .tuple #[.int .i32 ((r : Nat) : Int), .bool true] := by unfold foldV; rw [hf]
    rw [hv]
    clear hf hv
    have e181 : ((r : Int) == 181) = false := beq_eq_false_iff_ne.2 (by omega)
    have e215 : ((r : Int) == 215) = false := beq_eq_false_iff_ne.2 (by omega)
    have e930 : ((r : Int) == 930) = false := beq_eq_false_iff_ne.2 (by omega)
    have e962 : ((r : Int) == 962) = false := beq_eq_false_iff_ne.2 (by omega)
    have n215 : ((r : Int) != 215) = true := bne_iff_ne.2 (by omega)
    go_enter Tryd.func73, Tryd.ntmps73
    go_wp2
    go_ret2
    exact ⟨by first | rfl | (simp; done) | (simp; omega), rfl⟩
  have c9 : 256 ≤ r → r ≤ 912 → Calls Tryd.prog 73 #[.int .i32 (r : Int)] w fun e w' => e = .returned (foldV r) ∧ w' = w := fun h1 h2 => by
    have hf : foldN r = none := by
      unfold foldN
      repeat first | rw [if_neg (by omega)] | rw [if_pos (by omega)]
    have hv : foldV r = .tuple #[.int .i32 0, .bool false] := by unfold foldV; rw [hf]
    rw [hv]
    clear hf hv
    have e181 : ((r : Int) == 181) = false := beq_eq_false_iff_ne.2 (by omega)
    have e215 : ((r : Int) == 215) = false := beq_eq_false_iff_ne.2 (by omega)
    have e930 : ((r : Int) == 930) = false := beq_eq_false_iff_ne.2 (by omega)
    have e962 : ((r : Int) == 962) = false := beq_eq_false_iff_ne.2 (by omega)
    have n215 : ((r : Int) != 215) = true := bne_iff_ne.2 (by omega)
    go_enter Tryd.func73, Tryd.ntmps73
    go_wp2
    go_ret2
    exact ⟨by first | rfl | (simp; done) | (simp; omega), rfl⟩
  have c10 : 913 ≤ r → r ≤ 929 → Calls Tryd.prog 73 #[.int .i32 (r : Int)] w fun e w' => e = .returned (foldV r) ∧ w' = w := fun h1 h2 => by
    have hf : foldN r = some (r + 32) := by
      unfold foldN
      repeat first | rw [if_neg (by omega)] | rw [if_pos (by omega)]
    have hv : foldV r = .tuple #[.int .i32 ((r + 32 : Nat) : Int), .bool true] := by unfold foldV; rw [hf]
    rw [hv]
    clear hf hv
    have e181 : ((r : Int) == 181) = false := beq_eq_false_iff_ne.2 (by omega)
    have e215 : ((r : Int) == 215) = false := beq_eq_false_iff_ne.2 (by omega)
    have e930 : ((r : Int) == 930) = false := beq_eq_false_iff_ne.2 (by omega)
    have e962 : ((r : Int) == 962) = false := beq_eq_false_iff_ne.2 (by omega)
    have n215 : ((r : Int) != 215) = true := bne_iff_ne.2 (by omega)
    go_enter Tryd.func73, Tryd.ntmps73
    go_wp2
    go_ret2
    exact ⟨by first | rfl | (simp; done) | (simp; omega), rfl⟩
  have c11 : 930 ≤ r → r ≤ 930 → Calls Tryd.prog 73 #[.int .i32 (r : Int)] w fun e w' => e = .returned (foldV r) ∧ w' = w := fun h1 h2 => by
    have hf : foldN r = none := by
      unfold foldN
      repeat first | rw [if_neg (by omega)] | rw [if_pos (by omega)]
    have hv : foldV r = .tuple #[.int .i32 0, .bool false] := by unfold foldV; rw [hf]
    rw [hv]
    clear hf hv
    obtain rfl : r = 930 := by omega
    go_enter Tryd.func73, Tryd.ntmps73
    go_wp2
    go_ret2
    exact ⟨by first | rfl | (simp; done) | (simp; omega), rfl⟩
  have c12 : 931 ≤ r → r ≤ 937 → Calls Tryd.prog 73 #[.int .i32 (r : Int)] w fun e w' => e = .returned (foldV r) ∧ w' = w := fun h1 h2 => by
    have hf : foldN r = some (r + 32) := by
      unfold foldN
      repeat first | rw [if_neg (by omega)] | rw [if_pos (by omega)]
    have hv : foldV r = .tuple #[.int .i32 ((r + 32 : Nat) : Int), .bool true] := by unfold foldV; rw [hf]
    rw [hv]
    clear hf hv
    have e181 : ((r : Int) == 181) = false := beq_eq_false_iff_ne.2 (by omega)
    have e215 : ((r : Int) == 215) = false := beq_eq_false_iff_ne.2 (by omega)
    have e930 : ((r : Int) == 930) = false := beq_eq_false_iff_ne.2 (by omega)
    have e962 : ((r : Int) == 962) = false := beq_eq_false_iff_ne.2 (by omega)
    have n215 : ((r : Int) != 215) = true := bne_iff_ne.2 (by omega)
    go_enter Tryd.func73, Tryd.ntmps73
    go_wp2
    go_ret2
    exact ⟨by first | rfl | (simp; done) | (simp; omega), rfl⟩
  have c13 : 938 ≤ r → r ≤ 944 → Calls Tryd.prog 73 #[.int .i32 (r : Int)] w fun e w' => e = .returned (foldV r) ∧ w' = w := fun h1 h2 => by
    have hf : foldN r = none := by
      unfold foldN
      repeat first | rw [if_neg (by omega)] | rw [if_pos (by omega)]
    have hv : foldV r = .tuple #[.int .i32 0, .bool false] := by unfold foldV; rw [hf]
    rw [hv]
    clear hf hv
    have e181 : ((r : Int) == 181) = false := beq_eq_false_iff_ne.2 (by omega)
    have e215 : ((r : Int) == 215) = false := beq_eq_false_iff_ne.2 (by omega)
    have e930 : ((r : Int) == 930) = false := beq_eq_false_iff_ne.2 (by omega)
    have e962 : ((r : Int) == 962) = false := beq_eq_false_iff_ne.2 (by omega)
    have n215 : ((r : Int) != 215) = true := bne_iff_ne.2 (by omega)
    go_enter Tryd.func73, Tryd.ntmps73
    go_wp2
    go_ret2
    exact ⟨by first | rfl | (simp; done) | (simp; omega), rfl⟩
  have c14 : 945 ≤ r → r ≤ 961 → Calls Tryd.prog 73 #[.int .i32 (r : Int)] w fun e w' => e = .returned (foldV r) ∧ w' = w := fun h1 h2 => by
    have hf : foldN r = some (r) := by
      unfold foldN
      repeat first | rw [if_neg (by omega)] | rw [if_pos (by omega)]
    have hv : foldV r = .tuple #[.int .i32 ((r : Nat) : Int), .bool true] := by unfold foldV; rw [hf]
    rw [hv]
    clear hf hv
    have e181 : ((r : Int) == 181) = false := beq_eq_false_iff_ne.2 (by omega)
    have e215 : ((r : Int) == 215) = false := beq_eq_false_iff_ne.2 (by omega)
    have e930 : ((r : Int) == 930) = false := beq_eq_false_iff_ne.2 (by omega)
    have e962 : ((r : Int) == 962) = false := beq_eq_false_iff_ne.2 (by omega)
    have n215 : ((r : Int) != 215) = true := bne_iff_ne.2 (by omega)
    go_enter Tryd.func73, Tryd.ntmps73
    go_wp2
    go_ret2
    exact ⟨by first | rfl | (simp; done) | (simp; omega), rfl⟩
  have c15 : 962 ≤ r → r ≤ 962 → Calls Tryd.prog 73 #[.int .i32 (r : Int)] w fun e w' => e = .returned (foldV r) ∧ w' = w := fun h1 h2 => by
    have hf : foldN r = some (963) := by
      unfold foldN
      repeat first | rw [if_neg (by omega)] | rw [if_pos (by omega)]
    have hv : foldV r = .tuple #[.int .i32 ((963 : Nat) : Int), .bool true] := by unfold foldV; rw [hf]
    rw [hv]
    clear hf hv
    obtain rfl : r = 962 := by omega
    go_enter Tryd.func73, Tryd.ntmps73
    go_wp2
    go_ret2
    exact ⟨by first | rfl | (simp; done) | (simp; omega), rfl⟩
  have c16 : 963 ≤ r → r ≤ 969 → Calls Tryd.prog 73 #[.int .i32 (r : Int)] w fun e w' => e = .returned (foldV r) ∧ w' = w := fun h1 h2 => by
    have hf : foldN r = some (r) := by
      unfold foldN
      repeat first | rw [if_neg (by omega)] | rw [if_pos (by omega)]
    have hv : foldV r = .tuple #[.int .i32 ((r : Nat) : Int), .bool true] := by unfold foldV; rw [hf]
    rw [hv]
    clear hf hv
    have e181 : ((r : Int) == 181) = false := beq_eq_false_iff_ne.2 (by omega)
    have e215 : ((r : Int) == 215) = false := beq_eq_false_iff_ne.2 (by omega)
    have e930 : ((r : Int) == 930) = false := beq_eq_false_iff_ne.2 (by omega)
    have e962 : ((r : Int) == 962) = false := beq_eq_false_iff_ne.2 (by omega)
    have n215 : ((r : Int) != 215) = true := bne_iff_ne.2 (by omega)
    go_enter Tryd.func73, Tryd.ntmps73
    go_wp2
    go_ret2
    exact ⟨by first | rfl | (simp; done) | (simp; omega), rfl⟩
  have c17 : 970 ≤ r → r ≤ 1023 → Calls Tryd.prog 73 #[.int .i32 (r : Int)] w fun e w' => e = .returned (foldV r) ∧ w' = w := fun h1 h2 => by
    have hf : foldN r = none := by
      unfold foldN
      repeat first | rw [if_neg (by omega)] | rw [if_pos (by omega)]
    have hv : foldV r = .tuple #[.int .i32 0, .bool false] := by unfold foldV; rw [hf]
    rw [hv]
    clear hf hv
    have e181 : ((r : Int) == 181) = false := beq_eq_false_iff_ne.2 (by omega)
    have e215 : ((r : Int) == 215) = false := beq_eq_false_iff_ne.2 (by omega)
    have e930 : ((r : Int) == 930) = false := beq_eq_false_iff_ne.2 (by omega)
    have e962 : ((r : Int) == 962) = false := beq_eq_false_iff_ne.2 (by omega)
    have n215 : ((r : Int) != 215) = true := bne_iff_ne.2 (by omega)
    go_enter Tryd.func73, Tryd.ntmps73
    go_wp2
    go_ret2
    exact ⟨by first | rfl | (simp; done) | (simp; omega), rfl⟩
  have c18 : 1024 ≤ r → r ≤ 1039 → Calls Tryd.prog 73 #[.int .i32 (r : Int)] w fun e w' => e = .returned (foldV r) ∧ w' = w := fun h1 h2 => by
    have hf : foldN r = some (r + 80) := by
      unfold foldN
      repeat first | rw [if_neg (by omega)] | rw [if_pos (by omega)]
    have hv : foldV r = .tuple #[.int .i32 ((r + 80 : Nat) : Int), .bool true] := by unfold foldV; rw [hf]
    rw [hv]
    clear hf hv
    have e181 : ((r : Int) == 181) = false := beq_eq_false_iff_ne.2 (by omega)
    have e215 : ((r : Int) == 215) = false := beq_eq_false_iff_ne.2 (by omega)
    have e930 : ((r : Int) == 930) = false := beq_eq_false_iff_ne.2 (by omega)
    have e962 : ((r : Int) == 962) = false := beq_eq_false_iff_ne.2 (by omega)
    have n215 : ((r : Int) != 215) = true := bne_iff_ne.2 (by omega)
    go_enter Tryd.func73, Tryd.ntmps73
    go_wp2
    go_ret2
    exact ⟨by first | rfl | (simp; done) | (simp; omega), rfl⟩
  have c19 : 1040 ≤ r → r ≤ 1071 → Calls Tryd.prog 73 #[.int .i32 (r : Int)] w fun e w' => e = .returned (foldV r) ∧ w' = w := fun h1 h2 => by
    have hf : foldN r = some (r + 32) := by
      unfold foldN
      repeat first | rw [if_neg (by omega)] | rw [if_pos (by omega)]
    have hv : foldV r = .tuple #[.int .i32 ((r + 32 : Nat) : Int), .bool true] := by unfold foldV; rw [hf]
    rw [hv]
    clear hf hv
    have e181 : ((r : Int) == 181) = false := beq_eq_false_iff_ne.2 (by omega)
    have e215 : ((r : Int) == 215) = false := beq_eq_false_iff_ne.2 (by omega)
    have e930 : ((r : Int) == 930) = false := beq_eq_false_iff_ne.2 (by omega)
    have e962 : ((r : Int) == 962) = false := beq_eq_false_iff_ne.2 (by omega)
    have n215 : ((r : Int) != 215) = true := bne_iff_ne.2 (by omega)
    go_enter Tryd.func73, Tryd.ntmps73
    go_wp2
    go_ret2
    exact ⟨by first | rfl | (simp; done) | (simp; omega), rfl⟩
  have c20 : 1072 ≤ r → r ≤ 1119 → Calls Tryd.prog 73 #[.int .i32 (r : Int)] w fun e w' => e = .returned (foldV r) ∧ w' = w := fun h1 h2 => by
    have hf : foldN r = some (r) := by
      unfold foldN
      repeat first | rw [if_neg (by omega)] | rw [if_pos (by omega)]
    have hv : foldV r = .tuple #[.int .i32 ((r : Nat) : Int), .bool true] := by unfold foldV; rw [hf]
    rw [hv]
    clear hf hv
    have e181 : ((r : Int) == 181) = false := beq_eq_false_iff_ne.2 (by omega)
    have e215 : ((r : Int) == 215) = false := beq_eq_false_iff_ne.2 (by omega)
    have e930 : ((r : Int) == 930) = false := beq_eq_false_iff_ne.2 (by omega)
    have e962 : ((r : Int) == 962) = false := beq_eq_false_iff_ne.2 (by omega)
    have n215 : ((r : Int) != 215) = true := bne_iff_ne.2 (by omega)
    go_enter Tryd.func73, Tryd.ntmps73
    go_wp2
    go_ret2
    exact ⟨by first | rfl | (simp; done) | (simp; omega), rfl⟩
  have c21 : 1120 ≤ r → r ≤ 1114111 → Calls Tryd.prog 73 #[.int .i32 (r : Int)] w fun e w' => e = .returned (foldV r) ∧ w' = w := fun h1 h2 => by
    have hf : foldN r = none := by
      unfold foldN
      repeat first | rw [if_neg (by omega)] | rw [if_pos (by omega)]
    have hv : foldV r = .tuple #[.int .i32 0, .bool false] := by unfold foldV; rw [hf]
    rw [hv]
    clear hf hv
    have e181 : ((r : Int) == 181) = false := beq_eq_false_iff_ne.2 (by omega)
    have e215 : ((r : Int) == 215) = false := beq_eq_false_iff_ne.2 (by omega)
    have e930 : ((r : Int) == 930) = false := beq_eq_false_iff_ne.2 (by omega)
    have e962 : ((r : Int) == 962) = false := beq_eq_false_iff_ne.2 (by omega)
    have n215 : ((r : Int) != 215) = true := bne_iff_ne.2 (by omega)
    go_enter Tryd.func73, Tryd.ntmps73
    go_wp2
    go_ret2
    exact ⟨by first | rfl | (simp; done) | (simp; omega), rfl⟩
  rcases Nat.lt_or_ge r 65 with h | h
  · exact c0 (by omega) (by omega)
  rcases Nat.lt_or_ge r 91 with h | h
  · exact c1 (by omega) (by omega)
  rcases Nat.lt_or_ge r 181 with h | h
  · exact c2 (by omega) (by omega)
  rcases Nat.lt_or_ge r 182 with h | h
  · exact c3 (by omega) (by omega)
  rcases Nat.lt_or_ge r 192 with h | h
  · exact c4 (by omega) (by omega)
  rcases Nat.lt_or_ge r 215 with h | h
  · exact c5 (by omega) (by omega)
  rcases Nat.lt_or_ge r 216 with h | h
  · exact c6 (by omega) (by omega)
  rcases Nat.lt_or_ge r 223 with h | h
  · exact c7 (by omega) (by omega)
  rcases Nat.lt_or_ge r 256 with h | h
  · exact c8 (by omega) (by omega)
  rcases Nat.lt_or_ge r 913 with h | h
  · exact c9 (by omega) (by omega)
  rcases Nat.lt_or_ge r 930 with h | h
  · exact c10 (by omega) (by omega)
  rcases Nat.lt_or_ge r 931 with h | h
  · exact c11 (by omega) (by omega)
  rcases Nat.lt_or_ge r 938 with h | h
  · exact c12 (by omega) (by omega)
  rcases Nat.lt_or_ge r 945 with h | h
  · exact c13 (by omega) (by omega)
  rcases Nat.lt_or_ge r 962 with h | h
  · exact c14 (by omega) (by omega)
  rcases Nat.lt_or_ge r 963 with h | h
  · exact c15 (by omega) (by omega)
  rcases Nat.lt_or_ge r 970 with h | h
  · exact c16 (by omega) (by omega)
  rcases Nat.lt_or_ge r 1024 with h | h
  · exact c17 (by omega) (by omega)
  rcases Nat.lt_or_ge r 1040 with h | h
  · exact c18 (by omega) (by omega)
  rcases Nat.lt_or_ge r 1072 with h | h
  · exact c19 (by omega) (by omega)
  rcases Nat.lt_or_ge r 1120 with h | h
  · exact c20 (by omega) (by omega)
  exact c21 (by omega) (by omega)
end Go.Proofs.YtlgibcphfmjddaaDoor
