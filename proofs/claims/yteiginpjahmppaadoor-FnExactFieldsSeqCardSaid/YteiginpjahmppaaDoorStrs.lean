/-
  Contracts of the laws' helpers on lists of texts and on marks: eqStringS, markText, markStringS, heldStringS, markInt32S, markTest. Conditions: lists of at most 2^40 elements that lie in memory.
-/
import Derived.Test.YteiginpjahmppaaDoorTexts
import Derived.StillTailTactics
import Derived.Deep.RegionHeld3
namespace Go.Proofs.YteiginpjahmppaaDoor
open Go.RowKit
set_option linter.unusedVariables false

theorem strs_len (l : List ByteArray) : (strs l).length = l.length := by simp [strs]

set_option maxRecDepth 100000 in
set_option maxHeartbeats 1000000 in
theorem laws_eqStringS (a b : Option Addr) (c d : Nat) (l : List ByteArray) (w : World) (ha : Lies w w.heap.size 1 a l.length (strs l)) (hb : Lies w w.heap.size 1 b l.length (strs l)) (hlen : l.length ≤ 70368744177664) :
    Calls Tryd.prog 22 #[.slice a l.length c, .slice b l.length d] w fun e w' => e = .returned (.bool true) ∧ Dr w w' := by
  by_cases h0 : l.length = 0
  · rw [h0]
    clear ha hb
    go_enter Tryd.func22, Tryd.ntmps22
    go_wp2
    refine wp_loop_rounds 1 ?_; rw [rounds_succ]
    go_wp2
    go_ret
    exact ⟨rfl, Dr.refl _⟩
  · obtain ⟨g, o, rfl, hg, hc⟩ := ha.2 (by omega)
    obtain ⟨g', o', rfl, hg', hc'⟩ := hb.2 (by omega)
    have HC := Lib.hid hc; have HC' := Lib.hid hc'
    clear ha hb hc hc' h0
    go_enter Tryd.func22, Tryd.ntmps22
    go_wp2
    go_loopw [5] (fun vi wr => ∃ k : Nat, k ≤ l.length ∧ vi = .int .i64 (k : Int) ∧ Hid (Dr w wr)) (fun vi _ => l.length - (intOf vi).toNat)
    case atStart => exact ⟨0, Nat.zero_le _, rfl, Dr.refl _⟩
    case round =>
      obtain ⟨k, hk, rfl, HD⟩ := hrel
      by_cases hlt : k < l.length
      · have c1 : wr.cell? ⟨g, o + k, none⟩ = some (.string l[k]) := by
          obtain ⟨n, rfl⟩ := HD.out
          have := HC.out k (by rw [strs_len]; exact hlt)
          rw [strs_at hlt] at this
          exact this
        have c2 : wr.cell? ⟨g', o' + k, none⟩ = some (.string l[k]) := by
          obtain ⟨n, rfl⟩ := HD.out
          have := HC'.out k (by rw [strs_len]; exact hlt)
          rw [strs_at hlt] at this
          exact this
        go_wp2
        go_quiet (fail)
        go_wp2
        go_roundw
        case rel => exact ⟨k + 1, by omega, by go_num, HD.out.more _⟩
        case measure => simp [intOf]; omega
      · go_wp2
        go_ret
        exact ⟨rfl, HD.out⟩
def digB (m : Nat) : UInt8 := UInt8.ofNat (48 + m % 10)
theorem digB_is (m : Nat) : ((digB m).toNat : Int) = 48 + (m : Int) % 10 := by
  have e : (digB m).toNat = 48 + m % 10 := by
    show (48 + m % 10) % 256 = _
    omega
  rw [e]; omega
/-- the decimal digits of a number, ahead of a text -/
def digs : Nat → Nat → List UInt8 → List UInt8
  | 0, _, out => out
  | f + 1, k, out => if k = 0 then out else digs f (k / 10) (digB k :: out)
/-- what markText answers -/
def markT (k : Nat) : ByteArray := ⟨(109 :: digs k k []).toArray⟩
set_option maxRecDepth 100000 in
set_option maxHeartbeats 1000000 in
theorem laws_markText (a : Int) (k : Nat) (ha : a = (k : Int)) (h1 : 1 ≤ k) (h2 : k ≤ 4398046511104) (w : World) :
    Calls Tryd.prog 43 #[.int .i64 a] w fun e w' => e = .returned (.string (markT k)) ∧ Below w.heap.size w w' := by
  subst ha
  have hk0 : decide (k = 0) = false := by simp; omega
  go_enter Tryd.func43, Tryd.ntmps43
  go_wp2
  go_loopw [0, 3] (fun vk vo wr => ∃ (m : Nat) (out : List UInt8), vk = .int .i64 (m : Int) ∧ vo = .string ⟨out.toArray⟩ ∧ out.length + m ≤ k ∧ Hid (∃ f, m ≤ f ∧ digs f m out = digs k k []) ∧ Hid (Below w.heap.size w wr)) (fun vk _ _ => (intOf vk).toNat)
  case atStart => exact ⟨k, [], rfl, rfl, by simp, ⟨k, Nat.le_refl _, rfl⟩, Below.refl _ _⟩
  case round =>
    obtain ⟨m, out, rfl, rfl, hle, HD, HB⟩ := hrel
    by_cases hm : 0 < m
    · have hd10 : m % 10 < 10 := Nat.mod_lt _ (by omega)
      have hsz := HB.out.size
      have kc : (convert 35 9 (Value.slice (some ⟨wr.heap.size, 0, none⟩) 1 1)).run Tryd.prog (wr.alloc (.cells #[.int .u8 (48 + (m : Int) % 10)] 5)) = .ok (.string ⟨#[digB m]⟩) (wr.alloc (.cells #[.int .u8 (48 + (m : Int) % 10)] 5)) :=
        run_convert_bytes_back _ _ _ _ _ 1 [digB m] Tryd.underlying35 Tryd.underlying5 Tryd.underlying9 (fun j hj => by
          obtain rfl : j = 0 := by simpa using hj
          refine (World.cell?_alloc_mark _ _ _ _ _).trans ?_
          show some (Value.int .u8 (48 + (m : Int) % 10)) = some (.int .u8 ((digB m).toNat : Int))
          rw [digB_is])
      have HN := Lib.hid (show ∃ f, m / 10 ≤ f ∧ digs f (m / 10) (digB m :: out) = digs k k [] by
        obtain ⟨f, hf, he⟩ := HD.out
        obtain ⟨f', rfl⟩ : ∃ f', f = f' + 1 := ⟨f - 1, by omega⟩
        simp only [digs, if_neg (show ¬ m = 0 by omega)] at he
        exact ⟨f', by omega, he⟩)
      have HB2 := Lib.hid (HB.out.alloc hsz (.cells #[.int .u8 (48 + (m : Int) % 10)] 5))
      go_wp2
      exact ⟨⟨m / 10, digB m :: out, rfl, by simp; rfl, by simp; omega, HN.out, HB2.out⟩, by simp [intOf]; omega⟩
    · obtain rfl : m = 0 := by omega
      have HE := Lib.hid (show out = digs k k [] by
        obtain ⟨f, hf, he⟩ := HD.out
        rw [← he]; cases f <;> simp [digs])
      go_wp2
      go_ret
      refine ⟨ret_str ?_, HB.out⟩
      unfold markT; rw [← HE.out]; rfl
/-- the marks from k on -/
def marks (k n : Nat) : List ByteArray := (List.range n).map fun j => markT (k + j)
theorem marks_len (k n : Nat) : (marks k n).length = n := by simp [marks]
set_option maxRecDepth 100000 in
set_option maxHeartbeats 1000000 in
theorem laws_markStringS (base g n c : Nat) (l : List ByteArray) (w : World) (h : OwnStrs w base g n c l) (hn : n ≤ 1099511627776) (hB : base ≤ w.heap.size) :
    Calls Tryd.prog 23 #[.slice (some ⟨g, 0, none⟩) n c, .int .i64 1] w fun e w' => e = .returned (.int .i64 (1 + (n : Int))) ∧ OwnStrs w' base g n c (marks 1 n) ∧ Below base w w' := by
  have HO := Lib.hid h; clear h
  go_enter Tryd.func23, Tryd.ntmps23
  go_wp2
  go_loopw [1, 5] (fun vk vi wr => ∃ (k : Nat) (l' : List ByteArray), k ≤ n ∧ vk = .int .i64 (1 + (k : Int)) ∧ vi = .int .i64 (k : Int) ∧ Hid (OwnStrs wr base g n c l') ∧ Hid (∀ j (hj : j < l'.length), j < k → l'[j] = markT (1 + j)) ∧ Hid (Below base w wr)) (fun _ vi _ => n - (intOf vi).toNat)
  case atStart => exact ⟨0, l, Nat.zero_le _, rfl, rfl, HO.out, fun _ _ h => absurd h (by omega), Below.refl _ _⟩
  case round =>
    clear HO
    obtain ⟨k, l', hk, rfl, rfl, HO, HX, HB⟩ := hrel
    have hll : l'.length = n := by have := HO.out.1; rw [strs_len] at this; omega
    have HLL := Lib.hid hll
    have hgb : base ≤ g := (HO.out.lt g rfl).1
    have hgs : g < wr.heap.size := (HO.out.lt g rfl).2
    have hsz := HB.out.size
    by_cases hlt : k < n
    · clear hll
      go_wp2_with fail
      refine (laws_markText _ (1 + k) (by omega) (by omega) (by omega) _).mono ?_; rintro e w1 ⟨rfl, hb1⟩
      have ho1 : OwnStrs w1 base g n c l' := HO.out.kept (row := none) ⟨hb1.os, hb1.tape, hb1.output, hb1.size, fun q hq _ => hb1.block q hq⟩ (Classical.em _)
      have c2 : ∃ u, w1.cell? ⟨g, k, none⟩ = some (.string u) := ⟨l'[k]'(by rw [HLL.out]; exact hlt), by rw [ho1.cellAt k (by omega)]; simp [strs, HLL.out, hlt]⟩
      obtain ⟨u, c2⟩ := c2
      have f2 := ho1.frozenAt k
      have HS := Lib.hid (show OwnStrs (w1.setCell ⟨g, k, none⟩ (.string (markT (1 + k)))) base g n c (l'.set k (markT (1 + k))) by
        have := (ho1.stored k (.string (markT (1 + k)))).1
        unfold OwnStrs strs; rw [List.map_set]; exact this)
      have HX2 := Lib.hid (show ∀ j (hj : j < (l'.set k (markT (1 + k))).length), j < k + 1 → (l'.set k (markT (1 + k)))[j] = markT (1 + j) from fun j hj h => by
        by_cases e : j = k
        · subst e; simp
        · rw [List.getElem_set_ne (by omega)]; exact HX.out j (by simpa using hj) (by omega))
      have HB2 := Lib.hid ((HB.out.trans (hb1.mono (Nat.le_trans hB hsz))).setCell (p := ⟨g, k, none⟩) hgb (.string (markT (1 + k))))
      clear hb1 ho1
      go_wp2_with fail
      go_roundw
      case rel => exact ⟨k + 1, _, by omega, by go_num, by go_num, HS.out, HX2.out, HB2.out⟩
      case measure => simp [intOf]; omega
    · obtain rfl : k = n := by omega
      have HE := Lib.hid (show l' = marks 1 k from List.ext_getElem (by rw [marks_len, hll]) (fun j h1 h2 => by rw [HX.out j h1 (by omega)]; simp [marks]))
      clear hll
      go_wp2_with fail
      go_ret
      exact ⟨rfl, by rw [← HE.out]; exact HO.out, HB.out⟩
set_option maxRecDepth 100000 in
set_option maxHeartbeats 1000000 in
theorem laws_heldStringS (base g n c : Nat) (w : World) (h : OwnStrs w base g n c (marks 1 n)) (hn : n ≤ 1099511627776) :
    Calls Tryd.prog 24 #[.slice (some ⟨g, 0, none⟩) n c, .int .i64 1] w fun e w' => e = .returned (.int .i64 (1 + (n : Int))) ∧ Below w.heap.size w w' := by
  have HO := Lib.hid h; clear h
  have hgs : g < w.heap.size := (HO.out.lt g rfl).2
  go_enter Tryd.func24, Tryd.ntmps24
  go_wp2
  go_loopw [1, 5] (fun vk vi wr => ∃ (k : Nat), k ≤ n ∧ vk = .int .i64 (1 + (k : Int)) ∧ vi = .int .i64 (k : Int) ∧ Hid (Below w.heap.size w wr)) (fun _ vi _ => n - (intOf vi).toNat)
  case atStart => exact ⟨0, Nat.zero_le _, rfl, rfl, Below.refl _ _⟩
  case round =>
    obtain ⟨k, hk, rfl, rfl, HB⟩ := hrel
    have hsz := HB.out.size
    by_cases hlt : k < n
    · have c1 : wr.cell? ⟨g, k, none⟩ = some (.string (markT (1 + k))) := by
        rw [HB.out.cell (p := ⟨g, k, none⟩) hgs, HO.out.cellAt k (by omega)]
        simp [strs, marks, hlt]
      go_wp2_with fail
      go_region_held3 (fun w' => w'.cell? ⟨g, k, none⟩ = some (.string (markT (1 + k)))) (first | go_keep | exact (hb1.cell (p := ⟨g, k, none⟩) (Nat.lt_of_lt_of_le hgs hsz)).trans c1)
        (first | (go_at_call 43; refine (laws_markText _ (1 + k) (by omega) (by omega) (by omega) _).mono ?_; rintro e w1 ⟨rfl, hb1⟩))
      have HB2 := Lib.hid (HB.out.drew.trans (hb1.mono hsz))
      clear hb1
      go_wp2_with fail
      go_roundw
      case rel => exact ⟨k + 1, by omega, by go_num, by go_num, HB2.out⟩
      case measure => simp [intOf]; omega
    · obtain rfl : k = n := by omega
      go_wp2_with fail
      go_ret
      exact ⟨rfl, HB.out⟩
end Go.Proofs.YteiginpjahmppaaDoor
