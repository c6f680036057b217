/-
  For every text and four lists of code points the law FnMapTwice returns true and changes nothing: mapped by one table, and then by another one, a text is as mapped by both at once, where the first one tells code points, or drops them. Condition: what comes in is of bulk at most 1048576 (the second form).
-/
import Derived.Test.YtlgibcphfmjddaaDoorCards
import Derived.Test.YtlgibcphfmjddaaDoorTie
import Derived.Test.YtlgibcphfmjddaaDoorTabs
import Derived.Test.YtlgibcphfmjddaaDoorMapT
import Derived.Test.YtlgibcphfmjddaaDoorMapU
import Derived.Test.YtlgibcphfmjddaaDoorMapW
import Derived.Deep.RegionHeld3
import Derived.WalkKit
import Derived.ProofKit
import Derived.OpenShut
import Derived.ShutString
import Derived.ChangeOld
import Derived.Below
import Derived.SizedLaws
import Derived.Lib.SmallJoins
import Derived.Deep.CondSized
import Derived.Deep.DeepHandedRow
import Derived.Deep.DeepWitnessRowRef
namespace Go.Proofs.YtlgibcphfmjddaaDoor.fnMapTwiceUpto
open Go.ChangeShapes Go.WideShapes Go.ChangeAt Go.RowKit Go.Joins
open Go.ChangeMaps (open_string shut_string)
set_option linter.unusedVariables false

theorem own : ownKnob Tryd.prog.godebug = none := by kernel_rfl
theorem laidOut : laidOutB Tryd.prog = true := by kernel_rfl
theorem bulk_len (k : IntKind) {H : Type} (l : List Int) : l.length ≤ Rows.uptoBulkAll (lits (H := H) k l) := by
  induction l with
  | nil => simp [lits, Rows.uptoBulkAll]
  | cons x r ih => simp only [lits, List.map_cons, Rows.uptoBulkAll, Rows.uptoBulk, List.length_cons] at ih ⊢; omega
theorem img_nil : imgB [] = fun x => x := rfl
theorem lies_nil (w : World) : Lies w w.heap.size 2 none ([] : List (Int × Int)).length (rcells []) := ⟨rfl, fun h => absurd rfl (Nat.ne_of_gt h)⟩
theorem small_nil : Small [] := fun r h => by cases h
set_option maxRecDepth 100000 in
set_option maxHeartbeats 4000000 in
theorem walk (a0 : ByteArray) (a1 : Option Addr) (len1 cap1 : Nat) (z1 : List Int) (a2 : Option Addr) (len2 cap2 : Nat) (z2 : List Int) (a3 : Option Addr) (len3 cap3 : Nat) (z3 : List Int) (a4 : Option Addr) (len4 cap4 : Nat) (z4 : List Int) (w : World) (w0 : a0.size ≤ 1048576) (w1 : IsRow .i32 w a1 len1 cap1 z1) (r1 : cap1 ≤ 1048576) (w2 : IsRow .i32 w a2 len2 cap2 z2) (r2 : cap2 ≤ 1048576) (w3 : IsRow .i32 w a3 len3 cap3 z3) (r3 : cap3 ≤ 1048576) (w4 : IsRow .i32 w a4 len4 cap4 z4) (r4 : cap4 ≤ 1048576) (hT : Tabs w) :
    Calls Tryd.prog 6 #[.string a0, .slice a1 len1 cap1, .slice a2 len2 cap2, .slice a3 len3 cap3, .slice a4 len4 cap4] w fun e w' => e = .returned (.bool true) ∧ Below w.heap.size w w' := by
  obtain ⟨i0, hi, hz0, hz1, hz2⟩ := info_parts Tryd.infoRow
  have HT := Lib.hid hT; clear hT
  have hl1 := w1.lies; have hl2 := w2.lies; have hl3 := w3.lies; have hl4 := w4.lies
  have hle1 := w1.le; have hle2 := w2.le; have hle3 := w3.le; have hle4 := w4.le
  have hsm : Small ((z1.take len1).zip (z2.take len2)) := small_zip _ _ (fun z hz => w2.wf z (List.mem_of_mem_take hz))
  have hsm2 : Small ((z3.take len3).zip (z4.take len4)) := small_zip _ _ (fun z hz => w4.wf z (List.mem_of_mem_take hz))
  have hxl : (z1.take len1).length = len1 := by rw [List.length_take]; omega
  have hxl3 : (z3.take len3).length = len3 := by rw [List.length_take]; omega
  generalize z1.take len1 = xs at *
  generalize z2.take len2 = ys at *
  generalize z3.take len3 = xs2 at *
  generalize z4.take len4 = ys2 at *
  have HL1 := Lib.hid (show Lies w w.heap.size 1 a1 len1 (ivals xs) from hl1)
  have HL2 := Lib.hid (show Lies w w.heap.size 1 a2 len2 (ivals ys) from hl2)
  have HL3 := Lib.hid (show Lies w w.heap.size 1 a3 len3 (ivals xs2) from hl3)
  have HL4 := Lib.hid (show Lies w w.heap.size 1 a4 len4 (ivals ys2) from hl4)
  have hzl : (xs.zip ys).length ≤ 35184372088832 := by rw [List.length_zip]; omega
  have hzl2 : (xs2.zip ys2).length ≤ 35184372088832 := by rw [List.length_zip]; omega
  have CT := Lib.hid (fun (W : World) (hb : Below w.heap.size w W) => laws_table a1 a2 len1 len2 cap1 cap2 xs ys W (HL1.out.later hb) (HL2.out.later hb) (by omega) (by omega))
  have CT2 := Lib.hid (fun (W : World) (hb : Below w.heap.size w W) => laws_table a3 a4 len3 len4 cap3 cap4 xs2 ys2 W (HL3.out.later hb) (HL4.out.later hb) (by omega) (by omega))
  generalize xs.zip ys = rs at *
  generalize xs2.zip ys2 = rs2 at *
  clear hl1 hl2 hl3 hl4 w1 w2 w3 w4 hle1 hle2 hle3 hle4 HL1 HL2 HL3 HL4 hxl hxl3 r1 r2 r3 r4
  have HZ := Lib.hid hzl; have HSM := Lib.hid hsm; have HZ2 := Lib.hid hzl2; have HSM2 := Lib.hid hsm2
  clear hzl hsm hzl2 hsm2
  have hpn := pcs_len a0.data.toList.length 0 a0.data.toList (Nat.le_refl _)
  rw [len_data] at hpn
  have CMM := Lib.hid (fun (hrs : ∀ r ∈ rs, 0 ≤ r.2 → scB r.2 = true) => map_both rs rs2 a0.data.toList hrs)
  have CP0 := Lib.hid (fun (W : World) => spec_Points a0 W (by omega))
  have HPR := Lib.hid (pcs_r a0.data.toList 0)
  have hcl : (pcs 0 a0.data.toList).length ≤ 1048576 := by omega
  generalize pcs 0 a0.data.toList = ps at *
  have C3 := Lib.hid (fun (a : Option Addr) (c : Nat) (W : World) (hb : Below w.heap.size w W) (h : Lies W W.heap.size 2 a ps.length (rcells (bothR (thenF (imgB rs) (imgB rs2)) ps))) => impl_Map a c (bothR (thenF (imgB rs) (imgB rs2)) ps) a0 W (by omega) (HT.out.below hb) (by unfold bothR; rw [List.length_map]; exact h) (by unfold bothR; rw [List.length_map]; omega) (both_small rs rs2 ps HPR.out HSM.out HSM2.out))
  have C1 := Lib.hid (fun (a : Option Addr) (c : Nat) (W : World) (hb : Below w.heap.size w W) (h : Lies W W.heap.size 2 a rs.length (rcells rs)) => impl_Map a c rs a0 W (by omega) (HT.out.below hb) h HZ.out HSM.out)
  have hTl := mapped_len (imgB rs) a0.data.toList
  rw [len_data] at hTl
  obtain ⟨T1, hT1⟩ : ∃ T : ByteArray, (⟨(Lib.mapD (imgB rs) a0.data.toList).toArray⟩ : ByteArray) = T := ⟨_, rfl⟩
  have hT1d : Lib.mapD (imgB rs) a0.data.toList = T1.data.toList := by rw [← hT1]
  have hT1s : T1.size ≤ 1099511627776 := by rw [← len_data, ← hT1d]; omega
  have C2 := Lib.hid (fun (a : Option Addr) (c : Nat) (W : World) (hb : Below w.heap.size w W) (h : Lies W W.heap.size 2 a rs2.length (rcells rs2)) => impl_Map a c rs2 T1 W hT1s (HT.out.below hb) h HZ2.out HSM2.out)
  rw [hT1d] at CMM
  rw [hT1] at C1
  have C4 := Lib.hid (fun (W : World) (hb : Below w.heap.size w W) => impl_Map none 0 [] a0 W (by omega) (HT.out.below hb) (lies_nil W) (by simp) small_nil)
  rw [img_nil] at C4
  obtain ⟨T4, hT4⟩ : ∃ T : ByteArray, (⟨(Lib.mapD (fun x => x) a0.data.toList).toArray⟩ : ByteArray) = T := ⟨_, rfl⟩
  have hE := self_nil a0.data.toList
  rw [show Lib.mapD (fun x => x) a0.data.toList = T4.data.toList by rw [← hT4]] at hE
  rw [hT4] at C4
  have HE : Hid (T4.toList.isEmpty = a0.toList.isEmpty) := by
    rw [Lib.toList_data, Lib.toList_data]
    have : (T4.data.toList.isEmpty = true) = (a0.data.toList.isEmpty = true) := by rw [List.isEmpty_iff, List.isEmpty_iff]; exact propext hE
    exact Bool.eq_iff_iff.2 (by rw [this])
  have CI := Lib.hid (fun (a : Option Addr) (c : Nat) (x : Int) (W : World) (h : Lies W W.heap.size 2 a rs.length (rcells rs)) => spec_Image a c rs x W h HZ.out)
  have CI2 := Lib.hid (fun (a : Option Addr) (c : Nat) (x : Int) (W : World) (h : Lies W W.heap.size 2 a rs2.length (rcells rs2)) => spec_Image a c rs2 x W h HZ2.out)
  have CN := Lib.hid (fun (W : World) => laws_table_nil W)
  clear hT1 hT1d hT4 hE hTl hT1s
  go_enter Tryd.func6, Tryd.ntmps6
  go_wp2_with fail
  refine (CT.out _ (Below.refl _ w)).mono ?_; rintro e w1 ⟨ta, tc, rfl, hl1, hb1⟩
  have B1 := Lib.hid hb1; have L1 := Lib.hid hl1
  clear hb1 hl1
  go_wp2_with fail
  refine (CT2.out _ B1.out).mono ?_; rintro e w2 ⟨tb, tc2, rfl, hl2, hb2⟩
  have B2 := Lib.hid (B1.out.trans (hb2.mono B1.out.size)); have L2 := Lib.hid (L1.out.later hb2); have M2 := Lib.hid hl2
  clear hb2 hl2 B1 L1 CT CT2
  have hwa : Below w2.heap.size w2 ((w2.alloc (.cells #[.slice ta rs.length tc] 29)).alloc (.cells #[.slice tb rs2.length tc2] 29)) := ((Below.refl _ w2).alloc (Nat.le_refl _) _).alloc (by simp) _
  have B3 := Lib.hid (B2.out.trans (hwa.mono B2.out.size)); have L3 := Lib.hid (L2.out.later hwa); have M3 := Lib.hid (M2.out.later hwa)
  have X3 := Lib.hid ((Box.new w2 29 #[.slice ta rs.length tc]).alloc (.cells #[.slice tb rs2.length tc2] 29))
  have Y3 : Hid (Box ((w2.alloc (.cells #[.slice ta rs.length tc] 29)).alloc (.cells #[.slice tb rs2.length tc2] 29)) (w2.heap.size + 1) 29 #[.slice tb rs2.length tc2]) := by
    have := Box.new (w2.alloc (.cells #[.slice ta rs.length tc] 29)) 29 #[.slice tb rs2.length tc2]; rwa [World.size_alloc] at this
  clear hwa B2 L2 M2
  go_wp2_with fail
  generalize w2.heap.size = X at *
  generalize (w2.alloc (.cells #[.slice ta rs.length tc] 29)).alloc (.cells #[.slice tb rs2.length tc2] 29) = wL at *
  clear w1 w2
  go_loopw [28] (fun vi wr => ∃ k : Nat, k ≤ rs.length ∧ vi = .int .i64 (k : Int) ∧ Hid (∀ j (hj : j < rs.length), j < k → 0 ≤ rs[j].2 → scB rs[j].2 = true) ∧ Hid (Below wL.heap.size wL wr)) (fun vi _ => rs.length - (intOf vi).toNat)
  case atStart => exact ⟨0, Nat.zero_le _, rfl, fun _ _ h => absurd h (by omega), Below.refl _ _⟩
  case round =>
    obtain ⟨k, hk, rfl, HN, HB⟩ := hrel
    have hzr := HZ.out
    by_cases hlt : k < rs.length
    · obtain ⟨g, o, rfl, hg, c0, c1⟩ := row_cell (L3.out.later HB.out) k hlt
      have HB2 : Hid (Below wL.heap.size wL (wr.alloc (.cells #[.int .i32 rs[k].1, .int .i32 rs[k].2] 40))) := HB.out.alloc HB.out.size _
      have HNX := Lib.hid (fun (h : 0 ≤ rs[k].2 → scB rs[k].2 = true) => (show ∀ j (hj : j < rs.length), j < k + 1 → 0 ≤ rs[j].2 → scB rs[j].2 = true from fun j hj hjk => (by rcases Nat.lt_succ_iff_lt_or_eq.1 hjk with h' | rfl; exact HN.out j hj h'; exact h)))
      generalize rs[k].1 = q1 at *
      generalize rs[k].2 = q2 at *
      by_cases hpos : 0 ≤ q2
      · cases hs : scB q2
        · go_wp2_with fail
          refine (laws_scalar _ _).mono ?_; rintro e wx ⟨rfl, rfl⟩; rw [hs]
          go_wp2_with fail
          go_ret
          exact ⟨rfl, B3.out.trans (HB2.out.mono B3.out.size)⟩
        · go_wp2_with fail
          refine (laws_scalar _ _).mono ?_; rintro e wx ⟨rfl, rfl⟩; rw [hs]
          go_wp2_with fail
          exact ⟨⟨k + 1, by omega, by go_num, HNX.out (fun _ => hs), HB2.out⟩, by simp [intOf]; omega⟩
      · go_wp2_with fail
        exact ⟨⟨k + 1, by omega, by go_num, HNX.out (fun h => absurd h hpos), HB2.out⟩, by simp [intOf]; omega⟩
    · have HMM := Lib.hid (CMM.out (fun r hr => by obtain ⟨j, hj, rfl⟩ := List.mem_iff_getElem.1 hr; exact HN.out j hj (by omega)))
      have B4 := Lib.hid (B3.out.trans (HB.out.mono B3.out.size)); have L4 := Lib.hid (L3.out.later HB.out); have M4 := Lib.hid (M3.out.later HB.out)
      have X4 := Lib.hid (X3.out.later HB.out); have Y4 := Lib.hid (Y3.out.later HB.out)
      clear HN HB CMM B3 L3 M3 X3 Y3
      generalize wr = wB at *
      generalize k = k0 at *
      have hwb : Below wB.heap.size wB (wB.alloc (.cells #[.slice none 0 0] 29)) := (Below.refl _ wB).alloc (Nat.le_refl _) _
      have HWB := Lib.hid hwb; have HXB := Lib.hid (Box.new wB 29 #[.slice none 0 0])
      clear hwb
      go_wp2_with fail
      refine (CP0.out _).mono ?_; rintro e w5 ⟨g2, c2, rfl, ho2, hb2⟩
      have HW5 := Lib.hid (HWB.out.trans (hb2.mono (by simp))); have HX5 := Lib.hid (HXB.out.later hb2); have HP5 := Lib.hid (own_base ho2 (show wB.heap.size ≤ _ by simp))
      clear hb2 ho2 HWB HXB
      obtain ⟨h, hh⟩ : ∃ h, thenF (imgB rs) (imgB rs2) = h := ⟨_, rfl⟩
      have HH := Lib.hid (fun x => (congrFun hh x).symm)
      rw [hh] at HMM C3
      clear hh
      go_wp2_with fail
      go_loopw [46] (fun vi wr => ∃ (k : Nat) (v : Value), k ≤ ps.length ∧ vi = .int .i64 (k : Int) ∧ Hid (wr.ownsRow wB.heap.size 40 2 v k (rcells (bothR h (ps.take k)))) ∧ Hid (Box wr wB.heap.size 29 #[v]) ∧ Hid (wr.ownsRow wB.heap.size 21 1 (.slice (some ⟨g2, 0, none⟩) ps.length c2) ps.length (rvals ps)) ∧ Hid (Below wB.heap.size wB wr)) (fun vi _ => ps.length - (intOf vi).toNat)
      case atStart => exact ⟨0, .slice none 0 0, Nat.zero_le _, rfl, ⟨by simp [rcells, bothR], .inl ⟨rfl, rfl⟩⟩, HX5.out, HP5.out, HW5.out⟩
      case round =>
        clear HX5 HP5 HW5
        obtain ⟨k, v, hk, rfl, HO, HE1, HP, HB⟩ := hrel
        have hsz := HB.out.size
        have hxc : wr.cell? ⟨X, 0, none⟩ = some (.slice ta rs.length tc) := (X4.out.later HB.out).cell 0
        by_cases hlt : k < ps.length
        · obtain ⟨g, o, hge, hg, c1⟩ := int_cell (runes_lie HP.out) k (by simpa using hlt)
          obtain ⟨rfl, rfl⟩ : g = g2 ∧ o = 0 := by simp at hge; omega
          simp only [List.getElem_map, Nat.zero_add] at c1
          have HTK := Lib.hid (both_take h ps k hlt)
          obtain ⟨r, hr⟩ : ∃ r, ps[k].r = r := ⟨_, rfl⟩
          rw [hr] at c1 HTK
          have CIr := Lib.hid (CI.out ta tc (r : Int) wr (L4.out.later HB.out))
          have hhr := HH.out (r : Int)
          unfold thenF at hhr
          obtain ⟨F, hF⟩ : ∃ F, imgB rs (r : Int) = F := ⟨_, rfl⟩
          rw [hF] at CIr hhr
          clear hr hF hge
          by_cases hneg : 0 ≤ F
          · rw [if_pos hneg] at hhr
            rw [hhr] at HTK
            obtain ⟨F2, hF2⟩ : ∃ F2, imgB rs2 F = F2 := ⟨_, rfl⟩
            rw [hF2] at HTK
            clear hhr
            go_wp2_with fail
            refine CIr.out.mono ?_; rintro e w6 ⟨rfl, hb6⟩
            have HB6 := Lib.hid (HB.out.trans (hb6.mono hsz)); have HO := Lib.hid (own_later HO.out hb6); have HP := Lib.hid (own_later HP.out hb6); have HE6 := Lib.hid (HE1.out.later hb6)
            have hyc : w6.cell? ⟨X + 1, 0, none⟩ = some (.slice tb rs2.length tc2) := (Y4.out.later HB6.out).cell 0
            have CI6 := Lib.hid (CI2.out tb tc2 F w6 (M4.out.later HB6.out))
            rw [hF2] at CI6
            clear hF2 hb6 CIr hxc c1
            go_wp2_with fail
            refine CI6.out.mono ?_; rintro e W7 ⟨rfl, hb7⟩
            have HB7 := Lib.hid (HB6.out.trans (hb7.mono HB6.out.size)); have HO := Lib.hid (own_later HO.out hb7); have HP := Lib.hid (own_later HP.out hb7); have HE7 := Lib.hid (HE6.out.later hb7)
            have hvc : W7.cell? ⟨wB.heap.size, 0, none⟩ = some v := HE7.out.cell 0
            have hsz7 := HB7.out.size
            clear hb7 CI6 hyc
            go_wp2_with (at_builtin; refine wpList_append_lies _ rfl _ _ 27 rfl wB.heap.size 40 i0 _ 2 8 Tryd.underlying27 hi hz0 hz1 hz2 rfl (by omega) v k (rcells (bothR h (ps.take k))) rfl (HO.out.alloc _) ⟨W7.heap.size, 0, none⟩ 1 1 [.int .i32 (r : Int), .int .i32 F2] rfl rfl (World.news_of_block (cs := #[.int .i32 (r : Int), .int .i32 F2]) (t := 40) (fr := (0, 0)) (heap_alloc_new W7 _)) (by simp [Value.oneCell']) (by omega) (by unfold maxLen; omega) (by omega) (by simp; omega) (W7.heap.size + 1) (by simp) ?_; intro gg cap w8 hown8 hgrow8 hat8 hlt8; have hX8 : Hid (Box w8 wB.heap.size 29 #[v]) := Box.grown (by exact HE7.out.alloc _) hgrow8 (by exact HE7.out.apart HO.out (by decide)); have hc8 : w8.cell? ⟨wB.heap.size, 0, none⟩ = some v := hX8.out.cell 0; have hf8 := hX8.out.frozen 0)
            have hgg : gg ≠ wB.heap.size := by
              rcases hat8 with h8 | h8
              · intro e; exact HE7.out.apart HO.out (by decide) (by rw [h8, e])
              · have := HE7.out.lt; omega
            have hp8 := (HP.out.alloc (.cells #[.int .i32 (r : Int), .int .i32 F2] 40)).kept hgrow8 (own_apart (HP.out.alloc (.cells #[.int .i32 (r : Int), .int .i32 F2] 40)) (HO.out.alloc (.cells #[.int .i32 (r : Int), .int .i32 F2] 40)) (by decide))
            refine ⟨⟨k + 1, _, by omega, by go_num, ?_, hX8.out.set 0 _, own_set hp8 (hX8.out.apart hp8 (by decide)) _, ((HB7.out.alloc HB7.out.size _).grown hgrow8 (by have := HB7.out.size; simp; omega) (fun q e => (HO.out.lt q e).1)).setCell (by simp) _⟩, by simp [intOf]; omega⟩
            rw [Hid.out HTK]
            exact own_blk hown8 (Below.heap_setCell _ _ _ _ hgg)
          · rw [if_neg hneg] at hhr
            rw [hhr] at HTK
            clear hhr
            go_wp2_with fail
            refine CIr.out.mono ?_; rintro e W7 ⟨rfl, hb7⟩
            have HB7 := Lib.hid (HB.out.trans (hb7.mono hsz)); have HO := Lib.hid (own_later HO.out hb7); have HP := Lib.hid (own_later HP.out hb7); have HE7 := Lib.hid (HE1.out.later hb7)
            have hvc : W7.cell? ⟨wB.heap.size, 0, none⟩ = some v := HE7.out.cell 0
            have hsz7 := HB7.out.size
            clear hb7 CIr hxc c1
            go_wp2_with (at_builtin; refine wpList_append_lies _ rfl _ _ 27 rfl wB.heap.size 40 i0 _ 2 8 Tryd.underlying27 hi hz0 hz1 hz2 rfl (by omega) v k (rcells (bothR h (ps.take k))) rfl (HO.out.alloc _) ⟨W7.heap.size, 0, none⟩ 1 1 [.int .i32 (r : Int), .int .i32 F] rfl rfl (World.news_of_block (cs := #[.int .i32 (r : Int), .int .i32 F]) (t := 40) (fr := (0, 0)) (heap_alloc_new W7 _)) (by simp [Value.oneCell']) (by omega) (by unfold maxLen; omega) (by omega) (by simp; omega) (W7.heap.size + 1) (by simp) ?_; intro gg cap w8 hown8 hgrow8 hat8 hlt8; have hX8 : Hid (Box w8 wB.heap.size 29 #[v]) := Box.grown (by exact HE7.out.alloc _) hgrow8 (by exact HE7.out.apart HO.out (by decide)); have hc8 : w8.cell? ⟨wB.heap.size, 0, none⟩ = some v := hX8.out.cell 0; have hf8 := hX8.out.frozen 0)
            have hgg : gg ≠ wB.heap.size := by
              rcases hat8 with h8 | h8
              · intro e; exact HE7.out.apart HO.out (by decide) (by rw [h8, e])
              · have := HE7.out.lt; omega
            have hp8 := (HP.out.alloc (.cells #[.int .i32 (r : Int), .int .i32 F] 40)).kept hgrow8 (own_apart (HP.out.alloc (.cells #[.int .i32 (r : Int), .int .i32 F] 40)) (HO.out.alloc (.cells #[.int .i32 (r : Int), .int .i32 F] 40)) (by decide))
            refine ⟨⟨k + 1, _, by omega, by go_num, ?_, hX8.out.set 0 _, own_set hp8 (hX8.out.apart hp8 (by decide)) _, ((HB7.out.alloc HB7.out.size _).grown hgrow8 (by have := HB7.out.size; simp; omega) (fun q e => (HO.out.lt q e).1)).setCell (by simp) _⟩, by simp [intOf]; omega⟩
            rw [Hid.out HTK]
            exact own_blk hown8 (Below.heap_setCell _ _ _ _ hgg)
        · have HTK := Lib.hid (show ps.take k = ps from List.take_of_length_le (by omega))
          have hkk : k = ps.length := by omega
          have HL := Lib.hid HO.out
          rw [HTK.out] at HL
          subst hkk
          obtain ⟨tv, tvc, rfl⟩ := own_slice HO.out
          have hxv : wr.cell? ⟨wB.heap.size, 0, none⟩ = some (.slice tv ps.length tvc) := HE1.out.cell 0
          have hyc : wr.cell? ⟨X + 1, 0, none⟩ = some (.slice tb rs2.length tc2) := (Y4.out.later HB.out).cell 0
          have L7 := Lib.hid (L4.out.later HB.out); have M7 := Lib.hid (M4.out.later HB.out); have N7 := Lib.hid (Lies.of_own HL.out)
          have B7 := Lib.hid (B4.out.trans (HB.out.mono B4.out.size))
          have ZX := Lib.hid (X4.out.later HB.out); have ZY := Lib.hid (Y4.out.later HB.out); have ZV := HE1
          clear HO HL HP HB HTK L4 M4 X4 Y4 B4 CI CI2 HE1
          have hlx := ZX.out.lt; have hly := ZY.out.lt; have hlv := ZV.out.lt
          have C3a := Lib.hid (fun (W : World) (hb : Below w.heap.size w W) (h : Lies W W.heap.size 2 tv ps.length (rcells (bothR h ps))) => C3.out tv tvc W hb h)
          have C2a := Lib.hid (fun (W : World) (hb : Below w.heap.size w W) (h : Lies W W.heap.size 2 tb rs2.length (rcells rs2)) => C2.out tb tc2 W hb h)
          rw [show (bothR h ps).length = ps.length by unfold bothR; rw [List.length_map]] at C3a
          rw [HMM.out] at C2a
          obtain ⟨T2, hT2⟩ : ∃ T : ByteArray, (⟨(Lib.mapD (imgB (bothR h ps)) a0.data.toList).toArray⟩ : ByteArray) = T := ⟨_, rfl⟩
          rw [hT2] at C2a C3a
          have hee := HE.out
          clear hT2 C2 C3 HMM HH HE
          go_wp2_with fail
          have B7 : Hid (Below w.heap.size w wr.drew) := B7.out.drew
          have L7 : Hid (Lies wr.drew wr.drew.heap.size 2 ta rs.length (rcells rs)) := L7.out
          have M7 : Hid (Lies wr.drew wr.drew.heap.size 2 tb rs2.length (rcells rs2)) := M7.out
          have N7 : Hid (Lies wr.drew wr.drew.heap.size 2 tv ps.length (rcells (bothR h ps))) := N7.out
          have ZX : Hid (Box wr.drew X 29 #[.slice ta rs.length tc]) := ZX.out
          have ZY : Hid (Box wr.drew (X + 1) 29 #[.slice tb rs2.length tc2]) := ZY.out
          have ZV : Hid (Box wr.drew wB.heap.size 29 #[.slice tv ps.length tvc]) := ZV.out
          go_region_held3 (fun w' => w'.cell? ⟨X, 0, none⟩ = some (.slice ta rs.length tc) ∧ w'.cell? ⟨X + 1, 0, none⟩ = some (.slice tb rs2.length tc2) ∧ w'.cell? ⟨wB.heap.size, 0, none⟩ = some (.slice tv ps.length tvc)) (first | go_keep | exact ⟨ZX.out.cell 0, ZY.out.cell 0, ZV.out.cell 0⟩)
            (first
              | (go_at_call 17; refine (C1.out ta tc _ (by exact B7.out) (by exact L7.out)).mono ?_; rintro e w6 ⟨rfl, hb6⟩; have B7 := Lib.hid (B7.out.trans (hb6.mono B7.out.size)); have M7 := Lib.hid (M7.out.later hb6); have N7 := Lib.hid (N7.out.later hb6); have ZX := Lib.hid (ZX.out.later hb6); have ZY := Lib.hid (ZY.out.later hb6); have ZV := Lib.hid (ZV.out.later hb6); clear hb6)
              | (go_at_call 17; refine (C2a.out _ (by exact B7.out) (by exact M7.out)).mono ?_; rintro e w7 ⟨rfl, hb6⟩; have B7 := Lib.hid (B7.out.trans (hb6.mono B7.out.size)); have N7 := Lib.hid (N7.out.later hb6); have ZX := Lib.hid (ZX.out.later hb6); have ZY := Lib.hid (ZY.out.later hb6); have ZV := Lib.hid (ZV.out.later hb6); clear hb6)
              | (go_at_call 17; refine (C3a.out _ (by exact B7.out) (by exact N7.out)).mono ?_; rintro e w8 ⟨rfl, hb6⟩; have B7 := Lib.hid (B7.out.trans (hb6.mono B7.out.size)); have ZX := Lib.hid (ZX.out.later hb6); have ZY := Lib.hid (ZY.out.later hb6); have ZV := Lib.hid (ZV.out.later hb6); clear hb6)
              | (go_at_call 19; refine (CN.out _).mono ?_; rintro e w9 ⟨rfl, hb6⟩; have B7 := Lib.hid (B7.out.trans (hb6.mono B7.out.size)); have ZX := Lib.hid (ZX.out.later hb6); have ZY := Lib.hid (ZY.out.later hb6); have ZV := Lib.hid (ZV.out.later hb6); clear hb6)
              | (go_at_call 17; refine (C4.out _ (by exact B7.out)).mono ?_; rintro e w10 ⟨rfl, hb6⟩; have B7 := Lib.hid (B7.out.trans (hb6.mono B7.out.size)); have ZX := Lib.hid (ZX.out.later hb6); have ZY := Lib.hid (ZY.out.later hb6); have ZV := Lib.hid (ZV.out.later hb6); clear hb6))
          go_wp2_with fail
          go_ret
          exact ⟨by first | rfl | simp [hee], B7.out⟩

set_option maxRecDepth 100000 in
theorem contract (H : Type) (enc : TypeId × Value → H) (W : World) (base : Nat) (args : Array Value) (ds gs : List (DataW H)) (before : List MemPlace)
    (hval0 : ∀ (j : Nat) t v, Tryd.f6.params[j]? = some t → args[j]? = some v → Value.okWide Tryd.prog W .any base t v)
    (hW : DataW.Whole enc Tryd.prog Tryd.f6.params.toList Rows.fnMapTwiceSpec.vars false W args.toList ds gs before)
    (hsz0 : (DataW.weightsEach Tryd.prog (Tryd.f6.params.toList ++ Rows.fnMapTwiceSpec.plain.varTypes Tryd.prog) (ds ++ gs)).all (· ≤ reachBytes) = true) (hk : Rows.uptoSmall H (ds ++ gs) = true) (hL : laidMetH Tryd.prog Rows.fnMapTwiceUptoRow.laid W) :
    Calls Tryd.prog 6 args W fun e W' => ∃ v, e = .returned v ∧ Rows.fnMapTwiceSpec.post enc Tryd.prog Tryd.f6 false true false false W args v W' := by
  have hval := hval0
  have hsz := hsz0
  clear hval0 hsz0
  have hW' := hW
  obtain ⟨p, q, hA0, hV, rfl, hfz, hnd⟩ := hW
  have hA : DataW.TrodAll enc Tryd.prog W 0 (fun _ => true) true Tryd.f6.params.toList args.toList ds p := hA0
  rw [Tryd.params6] at hA hval hsz
  obtain ⟨v0, vs0, d0, ds0, p0, q0, hargs, rfl, rfl, h0, r0x⟩ := trodAll_cons hA
  obtain ⟨v1, vs1, d1, ds1, p1, q1, rfl, rfl, rfl, h1, r1x⟩ := trodAll_cons r0x
  obtain ⟨v2, vs2, d2, ds2, p2, q2, rfl, rfl, rfl, h2, r2x⟩ := trodAll_cons r1x
  obtain ⟨v3, vs3, d3, ds3, p3, q3, rfl, rfl, rfl, h3, r3x⟩ := trodAll_cons r2x
  obtain ⟨v4, vs4, d4, ds4, p4, q4, rfl, rfl, rfl, h4, r4x⟩ := trodAll_cons r3x
  obtain ⟨rfl, rfl, rfl⟩ := trodAll_nil r4x
  obtain rfl : args = #[v0, v1, v2, v3, v4] := by cases args; simp_all
  obtain ⟨rfl, rfl⟩ := trodVars_none hV
  have hbulk := of_decide_eq_true hk
  obtain ⟨a0, rfl, rfl, rfl, x0⟩ := open_string Tryd.underlying9 (hval 0 9 v0 rfl rfl) h0
  obtain ⟨a1, len1, cap1, rfl⟩ := okWide_slice Tryd.underlying33 (hval 1 33 v1 rfl rfl)
  have k1 := h1
  have lt1 : ∀ x ∈ p1, x.block < W.heap.size := by obtain ⟨m, hm⟩ := k1; exact DataW.trod_lt m _ _ _ hm
  obtain ⟨z1, w1, r1⟩ : ∃ zs, IsRow .i32 W a1 len1 cap1 zs ∧ cap1 ≤ 1048576 := by
    obtain ⟨fuel, hf⟩ := h1
    rcases open_ints Tryd.underlying33 Tryd.underlying21 (by kernel_rfl) hf with ⟨hcs, _⟩ | ⟨x, l, c, zs, hcs, _, hl, hm, hz, hd, hcell, hwz⟩
    · simp [Value.cells] at hcs
      obtain ⟨rfl, rfl, rfl⟩ := hcs
      exact ⟨[], .inl ⟨rfl, rfl, rfl, rfl⟩, by omega⟩
    · simp [Value.cells] at hcs
      obtain ⟨rfl, rfl, rfl⟩ := hcs
      simp only [if_true] at hz
      simp only [Prod.mk.injEq] at hd
      refine ⟨zs, .inr ⟨_, rfl, hl, hm, hz, hcell, hwz⟩, ?_⟩
      obtain ⟨hd, -⟩ := hd
      subst hd
      simp only [Rows.uptoBulkAll, Rows.uptoBulk, List.append_nil] at hbulk
      have e1 := bulk_len .i32 (H := H) (zs.take len1)
      have e2 := bulk_len .i32 (H := H) (zs.drop len1)
      simp only [List.length_take, List.length_drop] at e1 e2
      omega
  obtain ⟨a2, len2, cap2, rfl⟩ := okWide_slice Tryd.underlying33 (hval 2 33 v2 rfl rfl)
  have k2 := h2
  have lt2 : ∀ x ∈ p2, x.block < W.heap.size := by obtain ⟨m, hm⟩ := k2; exact DataW.trod_lt m _ _ _ hm
  obtain ⟨z2, w2, r2⟩ : ∃ zs, IsRow .i32 W a2 len2 cap2 zs ∧ cap2 ≤ 1048576 := by
    obtain ⟨fuel, hf⟩ := h2
    rcases open_ints Tryd.underlying33 Tryd.underlying21 (by kernel_rfl) hf with ⟨hcs, _⟩ | ⟨x, l, c, zs, hcs, _, hl, hm, hz, hd, hcell, hwz⟩
    · simp [Value.cells] at hcs
      obtain ⟨rfl, rfl, rfl⟩ := hcs
      exact ⟨[], .inl ⟨rfl, rfl, rfl, rfl⟩, by omega⟩
    · simp [Value.cells] at hcs
      obtain ⟨rfl, rfl, rfl⟩ := hcs
      simp only [if_true] at hz
      simp only [Prod.mk.injEq] at hd
      refine ⟨zs, .inr ⟨_, rfl, hl, hm, hz, hcell, hwz⟩, ?_⟩
      obtain ⟨hd, -⟩ := hd
      subst hd
      simp only [Rows.uptoBulkAll, Rows.uptoBulk, List.append_nil] at hbulk
      have e1 := bulk_len .i32 (H := H) (zs.take len2)
      have e2 := bulk_len .i32 (H := H) (zs.drop len2)
      simp only [List.length_take, List.length_drop] at e1 e2
      omega
  obtain ⟨a3, len3, cap3, rfl⟩ := okWide_slice Tryd.underlying33 (hval 3 33 v3 rfl rfl)
  have k3 := h3
  have lt3 : ∀ x ∈ p3, x.block < W.heap.size := by obtain ⟨m, hm⟩ := k3; exact DataW.trod_lt m _ _ _ hm
  obtain ⟨z3, w3, r3⟩ : ∃ zs, IsRow .i32 W a3 len3 cap3 zs ∧ cap3 ≤ 1048576 := by
    obtain ⟨fuel, hf⟩ := h3
    rcases open_ints Tryd.underlying33 Tryd.underlying21 (by kernel_rfl) hf with ⟨hcs, _⟩ | ⟨x, l, c, zs, hcs, _, hl, hm, hz, hd, hcell, hwz⟩
    · simp [Value.cells] at hcs
      obtain ⟨rfl, rfl, rfl⟩ := hcs
      exact ⟨[], .inl ⟨rfl, rfl, rfl, rfl⟩, by omega⟩
    · simp [Value.cells] at hcs
      obtain ⟨rfl, rfl, rfl⟩ := hcs
      simp only [if_true] at hz
      simp only [Prod.mk.injEq] at hd
      refine ⟨zs, .inr ⟨_, rfl, hl, hm, hz, hcell, hwz⟩, ?_⟩
      obtain ⟨hd, -⟩ := hd
      subst hd
      simp only [Rows.uptoBulkAll, Rows.uptoBulk, List.append_nil] at hbulk
      have e1 := bulk_len .i32 (H := H) (zs.take len3)
      have e2 := bulk_len .i32 (H := H) (zs.drop len3)
      simp only [List.length_take, List.length_drop] at e1 e2
      omega
  obtain ⟨a4, len4, cap4, rfl⟩ := okWide_slice Tryd.underlying33 (hval 4 33 v4 rfl rfl)
  have k4 := h4
  have lt4 : ∀ x ∈ p4, x.block < W.heap.size := by obtain ⟨m, hm⟩ := k4; exact DataW.trod_lt m _ _ _ hm
  obtain ⟨z4, w4, r4⟩ : ∃ zs, IsRow .i32 W a4 len4 cap4 zs ∧ cap4 ≤ 1048576 := by
    obtain ⟨fuel, hf⟩ := h4
    rcases open_ints Tryd.underlying33 Tryd.underlying21 (by kernel_rfl) hf with ⟨hcs, _⟩ | ⟨x, l, c, zs, hcs, _, hl, hm, hz, hd, hcell, hwz⟩
    · simp [Value.cells] at hcs
      obtain ⟨rfl, rfl, rfl⟩ := hcs
      exact ⟨[], .inl ⟨rfl, rfl, rfl, rfl⟩, by omega⟩
    · simp [Value.cells] at hcs
      obtain ⟨rfl, rfl, rfl⟩ := hcs
      simp only [if_true] at hz
      simp only [Prod.mk.injEq] at hd
      refine ⟨zs, .inr ⟨_, rfl, hl, hm, hz, hcell, hwz⟩, ?_⟩
      obtain ⟨hd, -⟩ := hd
      subst hd
      simp only [Rows.uptoBulkAll, Rows.uptoBulk, List.append_nil] at hbulk
      have e1 := bulk_len .i32 (H := H) (zs.take len4)
      have e2 := bulk_len .i32 (H := H) (zs.drop len4)
      simp only [List.length_take, List.length_drop] at e1 e2
      omega
  clear hA0
  have w0 : a0.size ≤ 1048576 := by
    simp only [Rows.uptoBulkAll, Rows.uptoBulk, List.append_nil] at hbulk
    have e : a0.data.toList.length = a0.size := by rw [Array.length_toList]; rfl
    omega
  refine (walk a0 a1 len1 cap1 z1 a2 len2 cap2 z2 a3 len3 cap3 z3 a4 len4 cap4 z4 W w0 w1 r1 w2 r2 w3 r3 w4 r4 (tabs_of hL (by unfold Rows.fnMapTwiceUptoRow; simp) (by unfold Rows.fnMapTwiceUptoRow; simp))).mono fun e W' ⟨he, bel⟩ => ?_
  subst he
  exact ⟨_, rfl, _, _, _, [], _, [], hW', trodAll_mk1 (shut_bool Tryd.underlying4 _), (trodAll_cons_mk (shut_string Tryd.underlying9 x0) (trodAll_cons_mk (Below.trod laidOut (by kernel_rfl) (of_decide_eq_true (by kernel_rfl)) k1 bel lt1) (trodAll_cons_mk (Below.trod laidOut (by kernel_rfl) (of_decide_eq_true (by kernel_rfl)) k2 bel lt2) (trodAll_cons_mk (Below.trod laidOut (by kernel_rfl) (of_decide_eq_true (by kernel_rfl)) k3 bel lt3) (trodAll_cons_mk (Below.trod laidOut (by kernel_rfl) (of_decide_eq_true (by kernel_rfl)) k4 bel lt4) trodAll_mk0))))), rfl, bel.frame _, fun h => by cases h⟩

theorem laid_met (os : Os) : laidMet Tryd.prog Rows.fnMapTwiceUptoRow.laid ((laidWorld os).forCall (fun _ _ => 0) ⟨#[], #[.string ByteArray.empty, .slice none 0 0, .slice none 0 0, .slice none 0 0, .slice none 0 0], []⟩).memory :=
  laidMet_of_run' 8 (by kernel_rfl) (by kernel_rfl)
theorem reads (os : Os) {H : Type} (enc : TypeId × Value → H) : ∃ places, DataW.whole enc Tryd.prog ((laidWorld os).forCall (fun _ _ => 0) ⟨#[], #[.string ByteArray.empty, .slice none 0 0, .slice none 0 0, .slice none 0 0, .slice none 0 0], []⟩).memory Tryd.f6.params.toList Rows.fnMapTwiceSpec.vars false (#[.string ByteArray.empty, .slice none 0 0, .slice none 0 0, .slice none 0 0, .slice none 0 0] : Array Value).toList 8 = some ([.lit (.string []), .nil, .nil, .nil, .nil], [], places) :=
  ⟨[], by kernel_rfl⟩
set_option maxRecDepth 100000 in
theorem lifted (os : Os) (started : os.Started) (H : Type) (enc : TypeId × Value → H) (F : Stop.Interp) :
    ReturnsInHanded {} Tryd.checked os 6 .any ((Rows.OpenSpec.upto Rows.fnMapTwiceSpec).preRow enc Tryd.prog Tryd.f6 Rows.fnMapTwiceUptoRow.domain false Rows.fnMapTwiceUptoRow.laid) (((Rows.OpenSpec.upto Rows.fnMapTwiceSpec).at F).post enc Tryd.prog Tryd.f6 false true false false) := by
  obtain ⟨places, hx⟩ := reads os enc
  refine returnsInHanded_of_row (C := Tryd.checked) (s := Rows.OpenSpec.upto Rows.fnMapTwiceSpec) own started (by kernel_rfl) Tryd.func6
    (witness_row_at (enc := enc) (C := Tryd.checked) false (laidWorld os) #[.string ByteArray.empty, .slice none 0 0, .slice none 0 0, .slice none 0 0, .slice none 0 0] rfl (by kernel_rfl) (by kernel_rfl) (by kernel_rfl)
      (OpenSpec.preRow_of_cond 8 hx (by kernel_rfl) (fun k hk => by cases hk; kernel_rfl) (by kernel_rfl) (laid_met os))) ?_
  intro W base args ds gs before hval0 hW _ hcond hsz0 hL _ _
  exact contract H enc W base args ds gs before hval0 hW hsz0 (hcond _ rfl) hL

theorem said : Rows.FnMapTwiceUptoSaid :=
  OpenClaim.holds_of_cond 6 Tryd.f6 rfl rfl rfl rfl rfl rfl rfl ⟨rfl, rfl, rfl, rfl, rfl⟩ rfl rfl rfl rfl rfl (by kernel_rfl) Tryd.func6 (by kernel_rfl)
    (of_decide_eq_true (by kernel_rfl)) (by unfold Func.isWrapper; first | (rw [if_pos (by decide +kernel)]; kernel_rfl) | (rw [if_neg (by decide +kernel)]; exact ⟨rfl, rfl⟩))
    (fun os started H enc _ F => by rw [OpenClaim.pre_eq_preRow]; exact lifted os started H enc F)

theorem plain (f : FuncId) (fn : Func) (hf : Tryd.pinned.checked.prog.funcNamed Rows.fnMapTwiceUptoRow.func = some f) (hfn : Tryd.pinned.checked.prog.funcs[f]? = some fn) :
    false = Tryd.pinned.checked.prog.looks [] ∧ ∀ (j : Nat) t, fn.params[j]? = some t → Tryd.pinned.checked.prog.wantsStandIn t = false := by
  obtain rfl : f = 6 := Option.some.inj ((show Tryd.prog.funcNamed Rows.fnMapTwiceUptoRow.func = some 6 by kernel_rfl).symm.trans hf) |>.symm
  obtain rfl : fn = Tryd.f6 := (Option.some.inj (Tryd.func6.symm.trans hfn)).symm
  refine ⟨by kernel_rfl, fun j t ht => ?_⟩
  rw [Tryd.params6] at ht
  have hm := Array.mem_of_getElem? ht
  simp only [List.mem_toArray, List.mem_cons, List.mem_nil_iff, or_false] at hm
  rcases hm with rfl | rfl | rfl | rfl | rfl
  · exact (show Tryd.prog.wantsStandIn 9 = false by kernel_rfl)
  · exact (show Tryd.prog.wantsStandIn 33 = false by kernel_rfl)
  · exact (show Tryd.prog.wantsStandIn 33 = false by kernel_rfl)
  · exact (show Tryd.prog.wantsStandIn 33 = false by kernel_rfl)
  · exact (show Tryd.prog.wantsStandIn 33 = false by kernel_rfl)

theorem proved : Rows.FnMapTwiceUptoCardSaid :=
  Claim7.holds_tied_plain_at .later [] _ _ _ _ said (fun _ h => by cases h) (by kernel_rfl) (fun _ h => by cases h) fnMapTwiceUpto_row_tie rfl ⟨rfl, rfl⟩ (by kernel_rfl) rfl plain (by kernel_rfl)
#print axioms proved
end Go.Proofs.YtlgibcphfmjddaaDoor.fnMapTwiceUpto
