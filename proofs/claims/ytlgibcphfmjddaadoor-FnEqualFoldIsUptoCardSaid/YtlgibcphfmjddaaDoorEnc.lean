/-
  The contract of the reference's encode. No condition.
-/
import Derived.Test.YtlgibcphfmjddaaDoorMem
import Derived.Lib.RuneBytes
namespace Go.Proofs.YtlgibcphfmjddaaDoor
open Go.RowKit
set_option linter.unusedVariables false
theorem conv_enc (w : World) (r : Int) (zs : List Int) (h : Lib.encodeRuneZ r = zs) :
    (convert 64 9 (Value.slice (some ⟨w.heap.size, 0, none⟩) zs.length zs.length)).run Tryd.prog (w.alloc (.cells (zs.map (Value.int .u8)).toArray 5)) = .ok (.string ⟨(Lib.encodeRune r).toArray⟩) (w.alloc (.cells (zs.map (Value.int .u8)).toArray 5)) := by
  have hc : zs.map (Value.int .u8) = (Lib.encodeRune r).map bcell := by
    have h1 := Lib.byteCells_encodeRune r
    unfold Lib.runeCells at h1
    rw [h] at h1
    exact h1.symm
  have hl : zs.length = (Lib.encodeRune r).length := by have := congrArg List.length hc; simpa using this
  rw [hl, hc]
  exact run_convert_bytes_back _ _ _ _ _ _ (Lib.encodeRune r) Tryd.underlying64 Tryd.underlying5 Tryd.underlying9 (fun j hj => by
    have e0 : (⟨w.heap.size, 0, none⟩ : Addr).add j = ⟨w.heap.size, j, none⟩ := by unfold Addr.add; by_cases h : j = 0 <;> simp [h]
    rw [e0, World.cell?_alloc_at _ _ _ _ rfl]
    simp [bcell]
    exact ⟨_, List.getElem?_eq_getElem hj, rfl⟩)
set_option maxRecDepth 100000 in
set_option maxHeartbeats 2000000 in
theorem spec_encode (r : Int) (h0 : -2147483648 ≤ r) (h1 : r ≤ 2147483647) (w : World) :
    Calls Tryd.prog 48 #[.int .i32 r] w fun e w' => e = .returned (.string ⟨(Lib.encodeRune r).toArray⟩) ∧ Below w.heap.size w w' := by
  by_cases hbad : r < 0 ∨ (55296 ≤ r ∧ r ≤ 57343) ∨ 1114111 < r
  · have HE := Lib.hid (show (⟨#[239, 191, 189]⟩ : ByteArray) = ⟨(Lib.encodeRune r).toArray⟩ by unfold Lib.encodeRune; rw [Lib.encodeRuneZ_bad hbad]; rfl)
    rcases hbad with hb | ⟨hb, hb2⟩ | hb
    · go_enter Tryd.func48, Tryd.ntmps48
      go_wp2
      go_ret
      exact ⟨ret_str HE.out, Below.refl _ _⟩
    · go_enter Tryd.func48, Tryd.ntmps48
      go_wp2
      go_ret
      exact ⟨ret_str HE.out, Below.refl _ _⟩
    · go_enter Tryd.func48, Tryd.ntmps48
      go_wp2
      go_ret
      exact ⟨ret_str HE.out, Below.refl _ _⟩
  · by_cases h128 : r < 128
    · have kc := conv_enc w r _ (Lib.encodeRuneZ_one (r := r) (by omega) (by omega))
      simp only [List.map_cons, List.map_nil, List.length_cons, List.length_nil, Nat.zero_add, Nat.reduceAdd] at kc
      go_enter Tryd.func48, Tryd.ntmps48
      go_wp2
      go_ret
      exact ⟨rfl, (Below.refl _ w).alloc (Nat.le_refl _) _⟩
    · by_cases h2048 : r < 2048
      · have kc := conv_enc w r _ (Lib.encodeRuneZ_two (r := r) (by omega) (by omega))
        simp only [List.map_cons, List.map_nil, List.length_cons, List.length_nil, Nat.zero_add, Nat.reduceAdd] at kc
        go_enter Tryd.func48, Tryd.ntmps48
        go_wp2
        go_ret
        exact ⟨rfl, (Below.refl _ w).alloc (Nat.le_refl _) _⟩
      · by_cases h65536 : r < 65536
        · by_cases h55 : r < 55296
          · have kc := conv_enc w r _ (Lib.encodeRuneZ_three (r := r) (by omega))
            simp only [List.map_cons, List.map_nil, List.length_cons, List.length_nil, Nat.zero_add, Nat.reduceAdd] at kc
            go_enter Tryd.func48, Tryd.ntmps48
            go_wp2
            go_ret
            exact ⟨rfl, (Below.refl _ w).alloc (Nat.le_refl _) _⟩
          · have kc := conv_enc w r _ (Lib.encodeRuneZ_three (r := r) (by omega))
            simp only [List.map_cons, List.map_nil, List.length_cons, List.length_nil, Nat.zero_add, Nat.reduceAdd] at kc
            go_enter Tryd.func48, Tryd.ntmps48
            go_wp2
            go_ret
            exact ⟨rfl, (Below.refl _ w).alloc (Nat.le_refl _) _⟩
        · have kc := conv_enc w r _ (Lib.encodeRuneZ_four (r := r) (by omega) (by omega))
          simp only [List.map_cons, List.map_nil, List.length_cons, List.length_nil, Nat.zero_add, Nat.reduceAdd] at kc
          go_enter Tryd.func48, Tryd.ntmps48
          go_wp2
          go_ret
          exact ⟨rfl, (Below.refl _ w).alloc (Nat.le_refl _) _⟩
end Go.Proofs.YtlgibcphfmjddaaDoor
