/-
  Contracts of the method (impl.Table).image and of the reference's image, Image. Conditions: the table's rows lie in memory, at most 2^45 of them.
-/
import Derived.Test.YtlgibcphfmjddaaDoorMem
namespace Go.Proofs.YtlgibcphfmjddaaDoor
open Go.RowKit
set_option linter.unusedVariables false

/-- what a table gives a code point -/
def imgB : List (Int × Int) → Int → Int
  | [], x => x
  | r :: rs, x => if r.1 = x then r.2 else imgB rs x
def rcells (rs : List (Int × Int)) : List Value := rs.flatMap fun r => [.int .i32 r.1, .int .i32 r.2]
theorem rcells_len (rs : List (Int × Int)) : (rcells rs).length = rs.length * 2 := by
  induction rs with
  | nil => rfl
  | cons r rs ih => simp only [rcells, List.flatMap_cons, List.length_append, List.length_cons] at ih ⊢; rw [ih]; simp; omega
theorem img_hit : ∀ (rs : List (Int × Int)) (k : Nat) (x : Int) (hk : k < rs.length), (∀ j (hj : j < rs.length), j < k → rs[j].1 ≠ x) → rs[k].1 = x → imgB rs x = rs[k].2
  | [], k, x, hk, _, _ => by simp at hk
  | r :: rs, 0, x, hk, hno, he => by simp at he; simp [imgB, he]
  | r :: rs, k + 1, x, hk, hno, he => by
    have h0 : r.1 ≠ x := hno 0 (by simp) (by omega)
    simp only [imgB, if_neg h0, List.getElem_cons_succ]
    exact img_hit rs k x (by simpa using hk) (fun j hj hjk => by have := hno (j + 1) (by simpa using hj) (by omega); simpa using this) (by simpa using he)
theorem img_out : ∀ (rs : List (Int × Int)) (x : Int), (∀ j (hj : j < rs.length), rs[j].1 ≠ x) → imgB rs x = x
  | [], x, _ => rfl
  | r :: rs, x, hno => by
    have h0 : r.1 ≠ x := hno 0 (by simp)
    simp only [imgB, if_neg h0]
    exact img_out rs x (fun j hj => by have := hno (j + 1) (by simpa using hj); simpa using this)
theorem row_cell {w : World} {B : Nat} {a : Option Addr} {rs : List (Int × Int)} (h : Lies w B 2 a rs.length (rcells rs)) (k : Nat) (hk : k < rs.length) :
    ∃ g o, a = some ⟨g, o, none⟩ ∧ g < B ∧ w.cell? ⟨g, o + k * 2, none⟩ = some (.int .i32 rs[k].1) ∧ w.cell? ⟨g, o + k * 2 + 1, none⟩ = some (.int .i32 rs[k].2) := by
  obtain ⟨g, o, e, hg, hc⟩ := h.2 (by omega)
  have hlen := rcells_len rs
  have key : ∀ (l : List (Int × Int)) (k : Nat) (hk : k < l.length) (j : Nat) (hj : j < 2), (rcells l)[k * 2 + j]? = [Value.int .i32 l[k].1, .int .i32 l[k].2][j]? := by
    intro l
    induction l with
    | nil => intro k hk; simp at hk
    | cons p l ih =>
      intro k hk j hj
      cases k with
      | zero =>
        simp only [rcells, List.flatMap_cons, List.getElem_cons_zero]
        rw [List.getElem?_append_left (by simp; omega)]
        simp
      | succ k =>
        simp only [rcells, List.flatMap_cons, List.getElem_cons_succ]
        rw [List.getElem?_append_right (by simp; omega)]
        have := ih k (by simpa using hk) j hj
        rw [← this]
        congr 1
        simp; omega
  have get : ∀ j (hj : j < 2) (v : Value), [Value.int .i32 rs[k].1, .int .i32 rs[k].2][j]? = some v → w.cell? ⟨g, o + k * 2 + j, none⟩ = some v := by
    intro j hj v hv
    have h1 := hc (k * 2 + j) (by rw [hlen]; omega)
    rw [show o + k * 2 + j = o + (k * 2 + j) by omega, h1]
    have h2 := key rs k hk j hj
    rw [hv] at h2
    rw [List.getElem?_eq_getElem (by rw [hlen]; omega)] at h2
    exact h2
  exact ⟨g, o, e, hg, get 0 (by omega) _ rfl, get 1 (by omega) _ rfl⟩
set_option maxRecDepth 100000 in
set_option maxHeartbeats 2000000 in
theorem impl_image (a : Option Addr) (cap : Nat) (rs : List (Int × Int)) (x : Int) (w : World) (hl : Lies w w.heap.size 2 a rs.length (rcells rs)) (hlen : rs.length ≤ 35184372088832) :
    Calls Tryd.prog 35 #[.agg #[.slice a rs.length cap], .int .i32 x] w fun e w' => e = .returned (.int .i32 (imgB rs x)) ∧ Below w.heap.size w w' := by
  have HW : Hid (Below w.heap.size w (w.alloc (.cells #[.slice a rs.length cap] 29))) := (Below.refl _ w).alloc (Nat.le_refl _) _
  have HL := Lib.hid hl
  clear hl
  go_enter Tryd.func35, Tryd.ntmps35
  go_wp2
  go_loopw [10] (fun i wr => ∃ k : Nat, k ≤ rs.length ∧ i = .int .i64 k ∧ Hid (∀ j (hj : j < rs.length), j < k → rs[j].1 ≠ x) ∧ Hid (Below w.heap.size w wr)) (fun i _ => rs.length - (intOf i).toNat)
  case atStart => exact ⟨0, Nat.zero_le _, rfl, fun _ _ h => absurd h (by omega), HW.out⟩
  case round =>
    obtain ⟨k, hk, rfl, HN, HB⟩ := hrel
    by_cases hlt : k < rs.length
    · obtain ⟨g, o, rfl, hg, c0, c1⟩ := row_cell (HL.out.later HB.out) k hlt
      have HB2 : Hid (Below w.heap.size w (wr.alloc (.cells #[.int .i32 rs[k].1, .int .i32 rs[k].2] 40))) := HB.out.alloc HB.out.size _
      by_cases he : rs[k].1 = x
      · have hb : (rs[k].1 == x) = true := by simp [he]
        have HE := Lib.hid (img_hit rs k x hlt HN.out he)
        clear he
        go_wp2
        go_ret
        refine ⟨ret_int HE.out.symm, ?_⟩
        exact HB2.out
      · have hb : (rs[k].1 == x) = false := by simp [he]
        have HE := Lib.hid he
        clear he
        go_wp2
        go_roundw
        case rel => exact ⟨k + 1, by omega, by go_num, fun j hj h => (by rcases Nat.lt_succ_iff_lt_or_eq.1 h with h | rfl; exact HN.out j hj h; exact HE.out), HB2.out⟩
        case measure => simp [intOf]; omega
    · have HE := Lib.hid (img_out rs x (fun j hj => HN.out j hj (by omega)))
      go_wp2
      go_ret
      exact ⟨ret_int HE.out.symm, HB.out⟩
set_option maxRecDepth 100000 in
set_option maxHeartbeats 2000000 in
theorem spec_image (a : Option Addr) (cap : Nat) (rs : List (Int × Int)) (x : Int) (w : World) (hl : Lies w w.heap.size 2 a rs.length (rcells rs)) (hlen : rs.length ≤ 35184372088832) :
    Calls Tryd.prog 38 #[.agg #[.slice a rs.length cap], .int .i32 x] w fun e w' => e = .returned (.int .i32 (imgB rs x)) ∧ Below w.heap.size w w' := by
  have hw : Below w.heap.size w (w.alloc (.cells #[.slice a rs.length cap] 29)) := (Below.refl _ w).alloc (Nat.le_refl _) _
  have HL := Lib.hid (hl.later hw); have HW := Lib.hid hw
  clear hl hw
  go_enter Tryd.func38, Tryd.ntmps38
  go_wp2
  go_loop [5] (fun i => ∃ k : Nat, k ≤ rs.length ∧ i = .int .i64 k ∧ Hid (∀ j (hj : j < rs.length), j < k → rs[j].1 ≠ x)) (fun i => rs.length - (intOf i).toNat)
  case atStart => exact ⟨0, Nat.zero_le _, rfl, fun _ _ h => absurd h (by omega)⟩
  case round =>
    obtain ⟨k, hk, rfl, HN⟩ := hrel
    by_cases hlt : k < rs.length
    · obtain ⟨g, o, rfl, hg, c0, c1⟩ := row_cell HL.out k hlt
      by_cases he : rs[k].1 = x
      · have hb : (rs[k].1 == x) = true := by simp [he]
        have HE := Lib.hid (img_hit rs k x hlt HN.out he)
        clear he
        go_wp2
        go_ret
        exact ⟨ret_int HE.out.symm, HW.out⟩
      · have hb : (rs[k].1 == x) = false := by simp [he]
        have HE := Lib.hid he
        clear he
        go_wp2
        go_round
        case rel => exact ⟨k + 1, by omega, by go_num, fun j hj h => (by rcases Nat.lt_succ_iff_lt_or_eq.1 h with h | rfl; exact HN.out j hj h; exact HE.out)⟩
        case measure => simp [intOf]; omega
    · have HE := Lib.hid (img_out rs x (fun j hj => HN.out j hj (by omega)))
      go_wp2
      go_ret
      exact ⟨ret_int HE.out.symm, HW.out⟩
set_option maxHeartbeats 1000000 in
theorem spec_Image (a : Option Addr) (cap : Nat) (rs : List (Int × Int)) (x : Int) (w : World) (hl : Lies w w.heap.size 2 a rs.length (rcells rs)) (hlen : rs.length ≤ 35184372088832) :
    Calls Tryd.prog 21 #[.agg #[.slice a rs.length cap], .int .i32 x] w fun e w' => e = .returned (.int .i32 (imgB rs x)) ∧ Below w.heap.size w w' := by
  have hw : Below w.heap.size w (w.alloc (.cells #[.slice a rs.length cap] 29)) := (Below.refl _ w).alloc (Nat.le_refl _) _
  have HL := Lib.hid (hl.later hw); have HW := Lib.hid hw
  clear hl hw
  go_enter Tryd.func21, Tryd.ntmps21
  go_wp2_with (go_at_call 38; refine (spec_image _ _ rs x _ HL.out hlen).mono ?_; rintro e w' ⟨rfl, hb⟩)
  go_ret
  exact ⟨rfl, HW.out.trans (hb.mono HW.out.size)⟩
end Go.Proofs.YtlgibcphfmjddaaDoor
