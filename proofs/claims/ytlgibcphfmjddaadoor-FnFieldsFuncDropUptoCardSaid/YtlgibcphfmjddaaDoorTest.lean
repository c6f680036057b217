/-
  Contracts: the method (impl.Test).holds, laws.test, and the library's indexFunc, IndexFunc, ContainsFunc, TrimLeftFunc where they are handed such a method value. Conditions: the test's runes lie in memory, at most 2^45 of them.
-/
import Derived.Test.YtlgibcphfmjddaaDoorMem
import Derived.Shelf.GgClosure.StringsIndexFunc
import Derived.Shelf.GgClosure.StringsTrimFunc
import Derived.Deep.LoopGhost
namespace Go.Proofs.YtlgibcphfmjddaaDoor
open Go.RowKit
set_option linter.unusedVariables false

/-- does a code point satisfy a test? -/
def holdB (zs : List Int) (nt : Bool) (x : Int) : Bool := if zs.contains x then !nt else nt
def ints (zs : List Int) : List Value := zs.map (Value.int .i32)

theorem hold_in {zs : List Int} {nt : Bool} {x : Int} {k : Nat} (hk : k < zs.length) (h : zs[k] = x) : (!nt) = holdB zs nt x := by
  unfold holdB
  rw [if_pos]
  simp only [List.contains_iff_mem]
  exact h ▸ List.getElem_mem hk
theorem hold_out {zs : List Int} {nt : Bool} {x : Int} (h : ∀ j (hj : j < zs.length), zs[j] ≠ x) : nt = holdB zs nt x := by
  unfold holdB
  rw [if_neg]
  simp only [List.contains_iff_mem, List.mem_iff_getElem, not_exists]
  intro j hj e
  exact h j hj e

set_option maxHeartbeats 1000000 in
theorem impl_holds (a : Option Addr) (len cap : Nat) (zs : List Int) (nt : Bool) (x : Int) (w : World) (hl : Lies w w.heap.size 1 a len (ints zs)) (hlen : len ≤ 70368744177664) :
    Calls Tryd.prog 42 #[.agg #[.slice a len cap, .bool nt], .int .i32 x] w fun e w' => e = .returned (.bool (holdB zs nt x)) ∧ Below w.heap.size w w' := by
  have hz : zs.length = len := by have := hl.1; simpa [ints] using this
  have HW : Hid (Below w.heap.size w (w.alloc (.cells #[.slice a len cap, .bool nt] 48))) := (Below.refl _ w).alloc (Nat.le_refl _) _
  by_cases h0 : len = 0
  · subst h0
    obtain rfl : zs = [] := List.length_eq_zero_iff.1 hz
    clear hl hz
    go_enter Tryd.func42, Tryd.ntmps42
    go_wp2
    refine wp_loop_rounds 1 ?_; rw [rounds_succ]
    go_wp2
    go_ret
    exact ⟨rfl, HW.out⟩
  · obtain ⟨g, o, rfl, hg, hc0⟩ := hl.2 (by omega)
    have hc : ∀ k (hk : k < zs.length), (w.alloc (.cells #[.slice (some ⟨g, o, none⟩) len cap, .bool nt] 48)).cell? ⟨g, o + k, none⟩ = some (.int .i32 zs[k]) := fun k hk => by
      rw [World.cell?_alloc_past _ _ _ (by simpa using hg)]
      have := hc0 k (by simpa [ints] using hk)
      simpa [ints] using this
    have HC := Lib.hid hc
    have HZ := Lib.hid hz
    clear hl hc0 hc hz h0
    go_enter Tryd.func42, Tryd.ntmps42
    go_wp2
    go_loop [6, 10] (fun _ i => ∃ k : Nat, k ≤ len ∧ i = .int .i64 k ∧ Hid (∀ j (hj : j < zs.length), j < k → zs[j] ≠ x)) (fun _ i => len - (intOf i).toNat)
    case atStart => exact ⟨0, Nat.zero_le _, rfl, fun _ _ h => absurd h (by omega)⟩
    case round =>
      obtain ⟨k, hk, rfl, HN⟩ := hrel
      by_cases hlt : k < len
      · have hkz : k < zs.length := by rw [HZ.out]; exact hlt
        have hcell := HC.out k hkz
        by_cases he : zs[k] = x
        · have hb : (zs[k] == x) = true := by simp [he]
          have HE := Lib.hid (hold_in (nt := nt) hkz he); clear he
          go_wp2
          go_ret
          exact ⟨ret_bool HE.out, HW.out⟩
        · have hb : (zs[k] == x) = false := by simp [he]
          have HE := Lib.hid he; clear he
          go_wp2
          go_round
          case rel => exact ⟨k + 1, by omega, by go_num, fun j hj h => by rcases Nat.lt_succ_iff_lt_or_eq.1 h with h | rfl; exact HN.out j hj h; exact HE.out⟩
          case measure => simp [intOf]; omega
      · go_wp2
        go_ret
        exact ⟨ret_bool (hold_out fun j hj => HN.out j hj (by rw [HZ.out] at hj; omega)), HW.out⟩

/-- what is asked of a method value that is handed on: its function, called with its receiver in any later world -/
def PredB (r : Value) (p : Nat → Bool) (w : World) : Prop :=
  ∀ (W : World) (x : Nat), x ≤ 1114111 → Below w.heap.size w W → Calls Tryd.prog 42 #[r, .int .i32 (x : Int)] W fun e w' => e = .returned (.bool (p x)) ∧ Below W.heap.size W w'
theorem PredB.later {r : Value} {p : Nat → Bool} {w W : World} (h : PredB r p w) (hb : Below w.heap.size w W) : PredB r p W :=
  fun W' x hx hb' => h W' x hx (hb.trans (hb'.mono hb.size))
theorem pred_test (a : Option Addr) (len cap : Nat) (zs : List Int) (nt : Bool) (w : World) (hl : Lies w w.heap.size 1 a len (ints zs)) (hlen : len ≤ 70368744177664) :
    PredB (.agg #[.slice a len cap, .bool nt]) (fun x => holdB zs nt x) w :=
  fun W x _ hb => impl_holds a len cap zs nt x W (hl.later hb) hlen



/-- a method value of a test, where it is made -/
theorem make_bound : ∀ (fn : Fn) (first cap : Array Value) (w : World), (Instr.makeFunc fn first cap).run Tryd.prog w = .ok (.func fn first cap) w := fun _ _ _ _ => rfl

theorem Tryd.info32 : (Tryd.prog.info? 21).map (fun i => (i.zero, i.size, i.bytes)) = some (some (.int .i32 0), 1, 4) := by kernel_rfl
theorem ints_one : ∀ (l : List Int), ∀ u ∈ ints l, u.oneCell' = true := by
  intro l u hu
  obtain ⟨b, _, rfl⟩ := List.mem_map.1 hu
  rfl
/-- the result of laws.test: a test whose runes lie in new memory -/
def TestOf (zs : List Int) (nt : Bool) (w : World) (e : Ending) (w' : World) : Prop :=
  ∃ a cap, e = .returned (.agg #[.slice a zs.length cap, .bool nt]) ∧ Lies w' w'.heap.size 1 a zs.length (ints zs) ∧ Below w.heap.size w w'
set_option maxHeartbeats 1000000 in
theorem laws_test (a : Option Addr) (len cap : Nat) (zs : List Int) (nt : Bool) (w : World) (ha : a = none → len = 0) (hl : Lies w w.heap.size 1 a len (ints zs)) (hlen : len ≤ 35184372088832) :
    Calls Tryd.prog 27 #[.slice a len cap, .bool nt] w (TestOf zs nt w) := by
  obtain ⟨i0, hi, hz0, hz1, hz2⟩ := info_parts Tryd.info32
  have hz : zs.length = len := by have := hl.1; simpa [ints] using this
  rcases a with _ | x
  · obtain rfl := ha rfl
    obtain rfl : zs = [] := List.length_eq_zero_iff.1 hz
    clear hl hz ha
    go_enter Tryd.func27, Tryd.ntmps27
    go_wp2
    exact bodyPost_ret (v := .agg #[.slice none 0 0, .bool nt]) (by simp [results, Tryd.results27, go_sem]) rfl ⟨none, 0, rfl, Lies.empty, (Below.refl _ w).alloc (Nat.le_refl _) _⟩
  · have hl2 : Lies (w.alloc (.cells #[.slice none 0 0, .bool false] 48)) w.heap.size 1 (some x) len (ints zs) := hl.below ((Below.refl _ w).alloc (Nat.le_refl _) _)
    have HL := Lib.hid hl2.news
    clear hl hl2 ha
    go_enter Tryd.func27, Tryd.ntmps27
    go_wp2_with (at_builtin; refine wpList_append_own _ rfl _ _ 33 rfl (w.heap.size + 1) 21 i0 (.int .i32 0) 1 4 Tryd.underlying33 hi hz0 hz1 hz2 rfl (by decide) (.slice none 0 0) 0 [] rfl (World.ownsRow_nil _ _ _ _) x len cap (ints zs) rfl (by simp [ints, hz]) HL.out (ints_one zs) (by unfold maxLen; omega) (by omega) (by simp) ?_; intro v' w1 hown1 hgrow1 hnil; clear hnil; rw [Nat.zero_add, List.nil_append] at hown1; obtain ⟨a', cap', rfl⟩ := own_slice hown1; obtain ⟨hc1, hf1, hs1⟩ := block_cells hgrow1 (by simp [Value.ownBlock]); have c0 := hc1 0; have c1 := hc1 1; have f0 := hf1 0; have f1 := hf1 1; clear hc1 hf1; have HO := Lib.hid hown1; have HG := Lib.hid hgrow1; clear hown1 hgrow1)
    have ho2 := ownsRow_setCell_below (ownsRow_setCell_below HO.out (a := ⟨w.heap.size, 0, none⟩) (by show w.heap.size < w.heap.size + 1; omega) (.slice a' len cap')) (a := ⟨w.heap.size, 1, none⟩) (by show w.heap.size < w.heap.size + 1; omega) (.bool nt)
    have hb2 : Below w.heap.size w ((w1.setCell ⟨w.heap.size, 0, none⟩ (.slice a' len cap')).setCell ⟨w.heap.size, 1, none⟩ (.bool nt)) :=
      ((((Below.refl _ w).alloc (Nat.le_refl _) _).trans (grown_below HG.out (by simp) (fun k h => by cases h))).setCell (p := ⟨w.heap.size, 0, none⟩) (Nat.le_refl _) _).setCell (p := ⟨w.heap.size, 1, none⟩) (Nat.le_refl _) _
    exact bodyPost_ret (v := .agg #[.slice a' len cap', .bool nt]) (by simp [results, Tryd.results27, go_sem, c0, c1]) rfl ⟨a', cap', by rw [hz], by rw [hz]; exact Lies.of_own ho2, hb2⟩
end Go.Proofs.YtlgibcphfmjddaaDoor
