/-
  The contract of laws.table: the rows that both lists have. Conditions: the lists lie in memory, at most 2^40 of each.
-/
import Derived.Test.YtlgibcphfmjddaaDoorImg
import Derived.Test.YtlgibcphfmjddaaDoorTexts
import Derived.Deep.RegionLaw
namespace Go.Proofs.YtlgibcphfmjddaaDoor
open Go.RowKit
set_option linter.unusedVariables false

theorem Tryd.infoRow : (Tryd.prog.info? 40).map (fun i => (i.zero, i.size, i.bytes)) = some (some (.agg #[.int .i32 0, .int .i32 0]), 2, 8) := by kernel_rfl
def ivals (xs : List Int) : List Value := xs.map (Value.int .i32)
theorem int_cell {w : World} {B n : Nat} {a : Option Addr} {xs : List Int} (h : Lies w B 1 a n (ivals xs)) (k : Nat) (hk : k < xs.length) :
    ∃ g o, a = some ⟨g, o, none⟩ ∧ g < B ∧ w.cell? ⟨g, o + k, none⟩ = some (.int .i32 xs[k]) := by
  have hn := h.1
  simp only [ivals, List.length_map] at hn
  obtain ⟨g, o, e, hg, hc⟩ := h.2 (by omega)
  have := hc k (by simpa [ivals] using hk)
  exact ⟨g, o, e, hg, by rw [this]; simp [ivals]⟩
theorem rcells_take (zs : List (Int × Int)) (k : Nat) (hk : k < zs.length) : rcells (zs.take (k + 1)) = rcells (zs.take k) ++ [.int .i32 zs[k].1, .int .i32 zs[k].2] := by
  unfold rcells; rw [List.take_succ_eq_append_getElem hk, List.flatMap_append]; simp
/-- a table that has been made -/
def NewTable (rs : List (Int × Int)) (w : World) (e : Ending) (w' : World) : Prop :=
  ∃ a c, e = .returned (.agg #[.slice a rs.length c]) ∧ Lies w' w'.heap.size 2 a rs.length (rcells rs) ∧ Below w.heap.size w w'
theorem own_set {w : World} {b e sz n B : Nat} {v : Value} {xs : List Value} (h : w.ownsRow b e sz v n xs) (hne : some B ≠ v.ownBlock) (u : Value) : (w.setCell ⟨B, 0, none⟩ u).ownsRow b e sz v n xs := by
  refine ⟨h.1, ?_⟩
  rcases h.2 with h | ⟨g, cap, cur, rfl, h2, h3, h4⟩
  · exact .inl h
  · refine .inr ⟨g, cap, cur, rfl, h2, (Below.heap_setCell _ _ _ _ (fun e => hne (by simp [Value.ownBlock, e]))).trans h3, h4⟩
set_option maxRecDepth 100000 in
set_option maxHeartbeats 2000000 in
theorem laws_table (a b : Option Addr) (n m ca cb : Nat) (xs ys : List Int) (w : World) (hx : Lies w w.heap.size 1 a n (ivals xs)) (hy : Lies w w.heap.size 1 b m (ivals ys)) (hn : n ≤ 1099511627776) (hm : m ≤ 1099511627776) :
    Calls Tryd.prog 19 #[.slice a n ca, .slice b m cb] w (NewTable (xs.zip ys) w) := by
  obtain ⟨i0, hi, hz0, hz1, hz2⟩ := info_parts Tryd.infoRow
  have hxn : xs.length = n := by have := hx.1; simpa [ivals] using this
  have hyn : ys.length = m := by have := hy.1; simpa [ivals] using this
  obtain ⟨zs, hzs⟩ : ∃ zs, xs.zip ys = zs := ⟨_, rfl⟩
  have hzl : zs.length = min n m := by rw [← hzs, List.length_zip, hxn, hyn]
  rw [hzs]
  have HB0 := Lib.hid (show Below w.heap.size w ((w.alloc (.cells #[.slice none 0 0] 29)).alloc (.cells #[.slice none 0 0] 29)) from ((Below.refl _ w).alloc (Nat.le_refl _) _).alloc (by simp) _)
  have HX0 := Lib.hid (show Box ((w.alloc (.cells #[.slice none 0 0] 29)).alloc (.cells #[.slice none 0 0] 29)) w.heap.size 29 #[.slice none 0 0] from (Box.new w _ _).alloc _)
  have HX1 := Lib.hid (show Box ((w.alloc (.cells #[.slice none 0 0] 29)).alloc (.cells #[.slice none 0 0] 29)) (w.heap.size + 1) 29 #[.slice none 0 0] by have := Box.new (w.alloc (.cells #[.slice none 0 0] 29)) 29 #[.slice none 0 0]; rwa [World.size_alloc] at this)
  have HX := Lib.hid hx; have HY := Lib.hid hy; have HZ := Lib.hid hzs
  clear hx hy hzs
  go_enter Tryd.func19, Tryd.ntmps19
  go_wp2
  go_loopw [6] (fun vi wr => ∃ (k : Nat) (v : Value), k ≤ zs.length ∧ vi = .int .i64 (k : Int) ∧ Hid (wr.ownsRow w.heap.size 40 2 v k (rcells (zs.take k))) ∧ Hid (Box wr w.heap.size 29 #[.slice none 0 0]) ∧ Hid (Box wr (w.heap.size + 1) 29 #[v]) ∧ Hid (Below w.heap.size w wr)) (fun vi _ => zs.length - (intOf vi).toNat)
  case atStart => exact ⟨0, .slice none 0 0, Nat.zero_le _, rfl, ⟨by simp [rcells], .inl ⟨rfl, rfl⟩⟩, HX0.out, HX1.out, HB0.out⟩
  case round =>
    clear HX0 HX1 HB0
    obtain ⟨k, v, hk, rfl, HO, HE0, HE, HB⟩ := hrel
    have hsz := HB.out.size
    have hvc : wr.cell? ⟨w.heap.size + 1, 0, none⟩ = some v := HE.out.cell 0
    have hvf := HE.out.frozen 0
    by_cases hlt1 : k < n
    · by_cases hlt2 : k < m
      · obtain ⟨g1, o1, rfl, hg1, c1⟩ := int_cell (HX.out.below HB.out) k (by omega)
        obtain ⟨g2, o2, rfl, hg2, c2⟩ := int_cell (HY.out.below HB.out) k (by omega)
        have hkz : k < zs.length := by omega
        have hzk : zs[k] = (xs[k], ys[k]) := by have := HZ.out; subst this; simp
        have HT := Lib.hid (rcells_take zs k hkz)
        rw [hzk] at HT
        generalize xs[k] = x at *
        generalize ys[k] = y at *
        clear hzk
        have hwl := HE.out.lt
        have HF := Lib.hid (show ∀ g, g < w.heap.size → some g ≠ v.ownBlock from fun g hg he => by have := (HO.out.lt g he.symm).1; omega)
        go_wp2_with fail
        go_region_law
          ((refine step_append_lies _ (by rfl) _ _ _ (by rfl) w.heap.size 40 i0 _ 2 8 Tryd.underlying27 hi hz0 hz1 hz2 rfl (by omega) v k (rcells (zs.take k)) (by rfl) ((HO.out.alloc _).drew)
              ⟨wr.heap.size, 0, none⟩ 1 1 [.int .i32 x, .int .i32 y] (by rfl) (by rfl) (World.news_of_block (cs := #[.int .i32 x, .int .i32 y]) (t := 40) (fr := (0, 0)) (heap_alloc_new wr _)) (by simp [Value.oneCell'])
              (by omega) (by unfold maxLen; omega) (by omega) (by simp; omega) (wr.heap.size + 1) (by simp) ?_; intro gg cap w1 hown1 hgrow hat hlt; have hX1 : Hid (Box w1 (w.heap.size + 1) 29 #[v]) := Box.grown (by exact HE.out.alloc _) hgrow (by exact HE.out.apart HO.out (by decide)); have hf1 := hX1.out.frozen 0; have hc1 : w1.cell? ⟨w.heap.size + 1, 0, none⟩ = some v := hX1.out.cell 0))
        all_goals (
          have hgg : gg ≠ w.heap.size + 1 := by
            rcases hat with h | h
            · intro e; exact HE.out.apart HO.out (by decide) (by rw [h, e])
            · omega
          have HO3 : Hid ((w1.setCell ⟨w.heap.size + 1, 0, none⟩ (.slice (some ⟨gg, 0, none⟩) (k + 1) cap)).ownsRow w.heap.size 40 2 (.slice (some ⟨gg, 0, none⟩) (k + 1) cap) (k + 1) (rcells (zs.take (k + 1)))) := by
            rw [HT.out]; exact own_blk hown1 (Below.heap_setCell _ _ _ _ hgg)
          have HB3 : Hid (Below w.heap.size w (w1.setCell ⟨w.heap.size + 1, 0, none⟩ (.slice (some ⟨gg, 0, none⟩) (k + 1) cap))) :=
            ((HB.out.alloc hsz _).drew.grown hgrow (by simp; omega) (fun q e => (HO.out.lt q e).1)).setCell (by simp) _
          have HE3 : Hid (Box (w1.setCell ⟨w.heap.size + 1, 0, none⟩ (.slice (some ⟨gg, 0, none⟩) (k + 1) cap)) (w.heap.size + 1) 29 #[.slice (some ⟨gg, 0, none⟩) (k + 1) cap]) := hX1.out.set 0 _
          have HE4 : Hid (Box (w1.setCell ⟨w.heap.size + 1, 0, none⟩ (.slice (some ⟨gg, 0, none⟩) (k + 1) cap)) w.heap.size 29 #[.slice none 0 0]) :=
            (Below.heap_setCell _ _ _ _ (by simp)).trans (Box.grown (by exact HE0.out.alloc _) hgrow (by exact HE0.out.apart HO.out (by decide)))
          generalize w1.setCell ⟨w.heap.size + 1, 0, none⟩ (.slice (some ⟨gg, 0, none⟩) (k + 1) cap) = w3 at *
          clear hgrow hown1 hX1 hc1 hf1 hat
          go_wp2
          exact ⟨⟨k + 1, _, by omega, by go_num, HO3.out, HE4.out, HE3.out, HB3.out⟩, by simp [intOf]; omega⟩)
      · have HK := Lib.hid (show zs.length = k by omega)
        have hO := HO.out
        rw [List.take_of_length_le (by omega)] at hO
        obtain ⟨ag, cg, rfl⟩ := own_slice hO
        have hf0 := HE0.out.frozen 0
        have hc0 : wr.cell? ⟨w.heap.size, 0, none⟩ = some (.slice none 0 0) := HE0.out.cell 0
        have HB3 : Hid (Below w.heap.size w (wr.setCell ⟨w.heap.size, 0, none⟩ (.slice ag k cg))) := HB.out.setCell (by simp) _
        have HO3 : Hid (Lies (wr.setCell ⟨w.heap.size, 0, none⟩ (.slice ag k cg)) (wr.setCell ⟨w.heap.size, 0, none⟩ (.slice ag k cg)).heap.size 2 ag k (rcells zs)) := Lies.of_own (own_set hO (HE0.out.apart hO (by decide)) _)
        have hc3 : (wr.setCell ⟨w.heap.size, 0, none⟩ (.slice ag k cg)).cell? ⟨w.heap.size, 0, none⟩ = some (.slice ag k cg) := (HE0.out.set 0 (.slice ag k cg)).cell 0
        clear hO hk hzl
        go_wp2
        refine bodyPost_ret (v := .agg #[.slice ag k cg]) (by simp [results, Tryd.results19, hc3, go_sem]) rfl ⟨ag, cg, by rw [HK.out], ?_, HB3.out⟩
        rw [HK.out]; exact HO3.out
    · have HK := Lib.hid (show zs.length = k by omega)
      have hO := HO.out
      rw [List.take_of_length_le (by omega)] at hO
      obtain ⟨ag, cg, rfl⟩ := own_slice hO
      have hf0 := HE0.out.frozen 0
      have hc0 : wr.cell? ⟨w.heap.size, 0, none⟩ = some (.slice none 0 0) := HE0.out.cell 0
      have HB3 : Hid (Below w.heap.size w (wr.setCell ⟨w.heap.size, 0, none⟩ (.slice ag k cg))) := HB.out.setCell (by simp) _
      have HO3 : Hid (Lies (wr.setCell ⟨w.heap.size, 0, none⟩ (.slice ag k cg)) (wr.setCell ⟨w.heap.size, 0, none⟩ (.slice ag k cg)).heap.size 2 ag k (rcells zs)) := Lies.of_own (own_set hO (HE0.out.apart hO (by decide)) _)
      have hc3 : (wr.setCell ⟨w.heap.size, 0, none⟩ (.slice ag k cg)).cell? ⟨w.heap.size, 0, none⟩ = some (.slice ag k cg) := (HE0.out.set 0 (.slice ag k cg)).cell 0
      clear hO hk hzl
      go_wp2
      refine bodyPost_ret (v := .agg #[.slice ag k cg]) (by simp [results, Tryd.results19, hc3, go_sem]) rfl ⟨ag, cg, by rw [HK.out], ?_, HB3.out⟩
      rw [HK.out]; exact HO3.out
end Go.Proofs.YtlgibcphfmjddaaDoor
