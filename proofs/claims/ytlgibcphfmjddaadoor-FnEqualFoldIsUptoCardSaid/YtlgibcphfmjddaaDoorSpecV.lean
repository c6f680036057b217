/-
  Contracts of the reference's whole, Whole, mended and ToValidUTF8. Conditions: the text, and what comes out, is of at most 2^40 bytes.
-/
import Derived.Test.YtlgibcphfmjddaaDoorPieces
import Derived.Test.YtlgibcphfmjddaaDoorMend
import Derived.Test.YtlgibcphfmjddaaDoorTexts
import Derived.Lib.AppendStr
import Derived.StillTailTactics
namespace Go.Proofs.YtlgibcphfmjddaaDoor
open Go.RowKit
set_option linter.unusedVariables false

theorem Tryd.info8v : (Tryd.prog.info? 5).map (fun i => (i.zero, i.size, i.bytes)) = some (some (.int .u8 0), 1, 1) := by kernel_rfl
theorem bytes_more (l : List UInt8) (s : ByteArray) : l.map bcell ++ Lib.strCells s = (l ++ s.data.toList).map bcell := by rw [List.map_append]; rfl
/-- what a slice of pieces holds -/
theorem pcc {w : World} {B : Nat} {a : Option Addr} {ps : List Pc} (h : Lies w B 4 a ps.length (pcells ps)) (k : Nat) (hk : k < ps.length) :
    ∃ g o, a = some ⟨g, o, none⟩ ∧ g < B ∧ w.cell? ⟨g, o + k * 4, none⟩ = some (.int .i64 (ps[k].at_ : Int)) ∧ w.cell? ⟨g, o + k * 4 + 1, none⟩ = some (.int .i64 (ps[k].size : Int)) ∧
      w.cell? ⟨g, o + k * 4 + 2, none⟩ = some (.int .i32 (ps[k].r : Int)) ∧ w.cell? ⟨g, o + k * 4 + 3, none⟩ = some (.bool ps[k].ok) := by
  obtain ⟨g, o, e, hg, hc⟩ := h.2 (by omega)
  have hlen := pcells_len ps
  have key : ∀ (l : List Pc) (k : Nat) (hk : k < l.length) (j : Nat) (hj : j < 4), (pcells l)[k * 4 + j]? = (pcell l[k])[j]? := by
    intro l
    induction l with
    | nil => intro k hk; simp at hk
    | cons p l ih =>
      intro k hk j hj
      cases k with
      | zero =>
        simp only [pcells, List.flatMap_cons, List.getElem_cons_zero]
        rw [List.getElem?_append_left (by simp [pcell]; omega)]
        simp
      | succ k =>
        simp only [pcells, List.flatMap_cons, List.getElem_cons_succ]
        rw [List.getElem?_append_right (by simp [pcell]; omega)]
        have := ih k (by simpa using hk) j hj
        rw [← this]
        congr 1
        simp [pcell]; omega
  have get : ∀ j (hj : j < 4) (v : Value), (pcell ps[k])[j]? = some v → w.cell? ⟨g, o + k * 4 + j, none⟩ = some v := by
    intro j hj v hv
    have h1 := hc (k * 4 + j) (by rw [hlen]; omega)
    rw [show o + k * 4 + j = o + (k * 4 + j) by omega, h1]
    have h2 := key ps k hk j hj
    rw [hv] at h2
    rw [List.getElem?_eq_getElem (by rw [hlen]; omega)] at h2
    exact h2
  exact ⟨g, o, e, hg, get 0 (by omega) _ rfl, get 1 (by omega) _ rfl, get 2 (by omega) _ rfl, get 3 (by omega) _ rfl⟩
theorem whole_at {ps : List Pc} {k : Nat} (h : k < ps.length) : wholeP (ps.drop k) = (ps[k].ok && wholeP (ps.drop (k + 1))) := by
  unfold wholeP; rw [List.drop_eq_getElem_cons h, List.all_cons]
set_option maxRecDepth 100000 in
set_option maxHeartbeats 2000000 in
theorem spec_whole (s : ByteArray) (w : World) (hs : s.size ≤ 1099511627776) :
    Calls Tryd.prog 39 #[.string s] w fun e w' => e = .returned (.bool ((chs s.data.toList).all okC)) ∧ Below w.heap.size w w' := by
  rw [← whole_chs]
  go_enter Tryd.func39, Tryd.ntmps39
  go_wp2_with fail
  refine (spec_pieces s hs _).mono ?_; rintro e w1 ⟨pa, pc, rfl, hpl, hb1⟩
  have HP := Lib.hid hpl
  have HB1 := Lib.hid hb1
  have hpn := pcs_len s.data.toList.length 0 s.data.toList (Nat.le_refl _)
  rw [len_data] at hpn
  generalize hps : pcs 0 s.data.toList = ps at *
  have HPS := Lib.hid hps
  clear hpl hps hb1
  go_wp2_with fail
  go_loopw [4] (fun vi wr => ∃ k : Nat, k ≤ ps.length ∧ vi = .int .i64 (k : Int) ∧ Hid (wholeP (ps.drop k) = wholeP ps) ∧ wr = w1) (fun vi _ => ps.length - (intOf vi).toNat)
  case atStart => exact ⟨0, Nat.zero_le _, rfl, rfl, rfl⟩
  case round =>
    obtain ⟨k, hk, rfl, HF, rfl⟩ := hrel
    by_cases hlt : k < ps.length
    · obtain ⟨g, o, rfl, hg, c0, c1, c2, c3⟩ := pcc HP.out k hlt
      have HA := Lib.hid (whole_at hlt)
      clear c0 c1 c2
      generalize hok : ps[k].ok = ok at *
      cases ok
      · go_wp2
        go_ret
        exact ⟨ret_bool (by rw [HPS.out, ← HF.out, HA.out]; rfl), HB1.out⟩
      · go_wp2
        go_roundw
        case rel => exact ⟨k + 1, by omega, by go_num, (by rw [← HF.out, HA.out]; rfl), trivial⟩
        case measure => simp [intOf]; omega
    · have HF2 := Lib.hid (show true = wholeP ps by rw [← HF.out, List.drop_of_length_le (by omega)]; rfl)
      go_wp2_with fail
      go_ret
      exact ⟨ret_bool (by rw [HPS.out]; exact HF2.out), HB1.out⟩
set_option maxHeartbeats 1000000 in
theorem spec_Whole (s : ByteArray) (w : World) (hs : s.size ≤ 1099511627776) :
    Calls Tryd.prog 22 #[.string s] w fun e w' => e = .returned (.bool ((chs s.data.toList).all okC)) ∧ Below w.heap.size w w' := by
  go_enter Tryd.func22, Tryd.ntmps22
  go_wp2_with (go_at_call 39; refine (spec_whole s _ hs).mono ?_; rintro e w' ⟨rfl, hb⟩)
  go_ret
  exact ⟨rfl, hb⟩
end Go.Proofs.YtlgibcphfmjddaaDoor
