/-
  Contracts of what puts texts one behind the other: the reference's repeated and joined, the laws' glued. Conditions: what comes out is of at most 2^40 bytes; lists lie in memory.
-/
import Derived.Test.YtlgibcphfmjddaaDoorTexts
import Derived.Lib.AppendStr
import Derived.Lib.Repeat
import Derived.Lib.Join
namespace Go.Proofs.YtlgibcphfmjddaaDoor
open Go.RowKit
set_option linter.unusedVariables false

theorem Tryd.info8 : (Tryd.prog.info? 5).map (fun i => (i.zero, i.size, i.bytes)) = some (some (.int .u8 0), 1, 1) := by kernel_rfl
theorem bytes_snoc (l : List UInt8) (s : ByteArray) : l.map bcell ++ Lib.strCells s = (l ++ s.data.toList).map bcell := by rw [List.map_append]; rfl

/-- the bytes of texts, one behind the other -/
def glueL (l : List ByteArray) : List UInt8 := l.flatMap (·.data.toList)
theorem glue_take (l : List ByteArray) (k : Nat) (h : k < l.length) : glueL (l.take (k + 1)) = glueL (l.take k) ++ l[k].data.toList := by
  unfold glueL; rw [List.take_succ_eq_append_getElem h, List.flatMap_append]; simp only [List.flatMap_cons, List.flatMap_nil, List.append_nil]
theorem glue_le (l : List ByteArray) (k : Nat) : (glueL (l.take k)).length ≤ (glueL l).length := by
  have : glueL l = glueL (l.take k) ++ glueL (l.drop k) := by unfold glueL; rw [← List.flatMap_append, List.take_append_drop]
  rw [this, List.length_append]; omega
set_option maxRecDepth 100000 in
set_option maxHeartbeats 1000000 in
theorem laws_glued (a : Option Addr) (c : Nat) (l : List ByteArray) (w : World) (hl : Lies w w.heap.size 1 a l.length (strs l)) (hc : l.length ≤ 1099511627776) (hlen : (glueL l).length ≤ 1099511627776) :
    Calls Tryd.prog 25 #[.slice a l.length c] w fun e w' => e = .returned (.string ⟨(glueL l).toArray⟩) ∧ Below w.heap.size w w' := by
  obtain ⟨i0, hi, hz0, hz1, hz2⟩ := info_parts Tryd.info8
  have HL := Lib.hid hl; clear hl
  go_enter Tryd.func25, Tryd.ntmps25
  go_wp2_with fail
  go_loopw [3, 8] (fun v vi wr => ∃ k : Nat, k ≤ l.length ∧ vi = .int .i64 (k : Int) ∧ Hid (wr.ownsRow w.heap.size 5 1 v (glueL (l.take k)).length ((glueL (l.take k)).map bcell)) ∧ Hid (Below w.heap.size w wr)) (fun _ vi _ => l.length - (intOf vi).toNat)
  case atStart => exact ⟨0, Nat.zero_le _, rfl, World.ownsRow_nil _ _ _ _, Below.refl _ _⟩
  case round =>
    obtain ⟨k, hk, rfl, HO, HB⟩ := hrel
    have hsz := HB.out.size
    by_cases hlt : k < l.length
    · obtain ⟨g, o, rfl, hg, hcl⟩ := (HL.out.below HB.out).2 (by omega)
      have hks : k < (strs l).length := by simp [strs]; exact hlt
      have hcell : wr.cell? ⟨g, o + k, none⟩ = some (.string l[k]) := by rw [hcl k hks, strs_at hlt hks]
      have hst := glue_take l k hlt
      have hb1 := glue_le l (k + 1)
      rw [hst, List.length_append, len_data] at hb1
      have HST := Lib.hid hst
      generalize hF : l[k] = F at *
      generalize hG : glueL (l.take k) = G at *
      clear hst hcl hks hF hG
      go_wp2_with (at_builtin; refine Lib.wpList_append_own_string _ rfl _ _ 64 9 rfl w.heap.size 5 i0 Tryd.underlying64 Tryd.underlying9 hi hz0 hz1 hz2 u3 G.length (G.map bcell) rfl HO.out F rfl (by unfold maxLen; omega) (by omega) hsz ?_; intro v' w3 hown3 hgrow3 hnil3)
      have HO3 := Lib.hid (show w3.ownsRow w.heap.size 5 1 v' (glueL (l.take (k + 1))).length ((glueL (l.take (k + 1))).map bcell) by rw [HST.out, ← bytes_snoc, List.length_append, len_data]; exact hown3)
      have HB3 := Lib.hid (HB.out.grown hgrow3 hsz (fun q e => (HO.out.lt q e).1))
      clear hown3 hgrow3 hnil3
      go_wp2_with fail
      exact ⟨⟨k + 1, by omega, rfl, HO3.out, HB3.out⟩, by simp [intOf]; omega⟩
    · obtain rfl : k = l.length := by omega
      rw [List.take_length] at HO
      have kc := conv_own (P := Tryd.prog) wr 64 9 5 Tryd.underlying64 Tryd.underlying5 Tryd.underlying9 HO.out
      go_wp2
      go_ret
      exact ⟨rfl, HB.out⟩
end Go.Proofs.YtlgibcphfmjddaaDoor
