/-
  For every text the law FnEqualFoldMap returns true and changes nothing: a well-formed text is, under simple case folding, what it is with its letters from A to Z made small, or great. Condition: what comes in is of bulk at most 1048576 (the second form).
-/
import Derived.Test.YtlgibcphfmjddaaDoorCards
import Derived.Test.YtlgibcphfmjddaaDoorTie
import Derived.Test.YtlgibcphfmjddaaDoorTabs
import Derived.Test.YtlgibcphfmjddaaDoorFoldW
import Derived.Test.YtlgibcphfmjddaaDoorMapT
import Derived.Test.YtlgibcphfmjddaaDoorMapW
import Derived.Test.YtlgibcphfmjddaaDoorSpecV
import Derived.WalkKit
import Derived.ProofKit
import Derived.OpenShut
import Derived.ShutString
import Derived.ChangeOld
import Derived.Below
import Derived.SizedLaws
import Derived.Lib.SmallJoins
import Derived.Deep.CondSized
import Derived.Deep.DeepHandedRow
import Derived.Deep.DeepWitnessRowRef
namespace Go.Proofs.YtlgibcphfmjddaaDoor.fnEqualFoldMapUpto
open Go.ChangeShapes Go.WideShapes Go.ChangeAt Go.RowKit Go.Joins
open Go.ChangeMaps (open_string shut_string)
set_option linter.unusedVariables false

theorem own : ownKnob Tryd.prog.godebug = none := by kernel_rfl
theorem laidOut : laidOutB Tryd.prog = true := by kernel_rfl
theorem ch_self {l : List UInt8} {c : Ch} (hc : c ∈ chs l) (ho : okC c = true) : encC (c.1 : Int) = c := by
  have h1 := chs_mem hc
  have h2 := map_self c.2 (by rw [h1]; simp [ho])
  have h3 := map_chs (fun x => x) c.2
  rw [h2, h1] at h3
  unfold mapCh at h3
  rw [List.flatMap_cons, if_pos (show 0 ≤ (fun x : Int => x) (c.1 : Int) from Int.natCast_nonneg _)] at h3
  have : c = encC (c.1 : Int) := by simpa using h3
  exact this.symm
def upL (a : Int) : Nat → List Int
  | 0 => []
  | n + 1 => a :: upL (a + 1) n
theorem upL_len : ∀ (n : Nat) (a : Int), (upL a n).length = n
  | 0, _ => rfl
  | n + 1, a => by simp [upL, upL_len n]
theorem upL_snoc : ∀ (n : Nat) (a : Int), upL a (n + 1) = upL a n ++ [a + n]
  | 0, a => by simp [upL]
  | n + 1, a => by
    show a :: upL (a + 1) (n + 1) = (a :: upL (a + 1) n) ++ [a + ((n + 1 : Nat) : Int)]
    rw [upL_snoc n (a + 1), List.cons_append, show a + 1 + (n : Int) = a + ((n + 1 : Nat) : Int) by omega]
theorem upL_mem : ∀ (n : Nat) (a x : Int), x ∈ upL a n → a ≤ x ∧ x < a + n
  | 0, a, x, h => by cases h
  | n + 1, a, x, h => by
    rcases List.mem_cons.1 h with h | h
    · subst h; omega
    · have := upL_mem n (a + 1) x h; omega
theorem img_up : ∀ (n : Nat) (a b x : Int), imgB ((upL a n).zip (upL b n)) x = if a ≤ x ∧ x < a + n then x + (b - a) else x
  | 0, a, b, x => by simp [upL, imgB]; omega
  | n + 1, a, b, x => by
    show (if a = x then b else imgB ((upL (a + 1) n).zip (upL (b + 1) n)) x) = _
    rw [img_up n (a + 1) (b + 1) x]
    by_cases h : a = x
    · rw [if_pos h, if_pos (by omega)]; omega
    · rw [if_neg h]
      by_cases h2 : a + 1 ≤ x ∧ x < a + 1 + n
      · rw [if_pos h2, if_pos (by omega)]; omega
      · rw [if_neg h2, if_neg (by omega)]
theorem up_small (n : Nat) (a b : Int) (h0 : 0 ≤ b) (h1 : b + n ≤ 1000) : Small ((upL a n).zip (upL b n)) := by
  intro r hr
  have := upL_mem n b r.2 (List.of_mem_zip hr).2
  omega
/-- the code points of a mapped text, where each has an image that has a sequence -/
theorem rn_map (f : Int → Int) (h : Nat → Nat) (l : List UInt8) (hf : ∀ c ∈ chs l, f (c.1 : Int) = ((h c.1 : Nat) : Int) ∧ sc (f (c.1 : Int)) = h c.1) : rn (Lib.mapD f l) = (rn l).map h := by
  unfold rn
  rw [map_chs]
  generalize chs l = cs at *
  induction cs with
  | nil => rfl
  | cons c cs ih =>
    have i := ih (fun d hd => hf d (List.mem_cons_of_mem _ hd))
    obtain ⟨h1, h2⟩ := hf c (List.mem_cons_self ..)
    unfold mapCh at i ⊢
    rw [List.flatMap_cons, if_pos (by rw [h1]; exact Int.natCast_nonneg _), List.map_append, i]
    simp only [List.map_cons, List.map_nil, List.cons_append, List.nil_append, encC, h2]
theorem eq_map : ∀ (l : List Nat) (g h : Nat → Nat), (∀ r ∈ l, eqR (g r) (h r) = true) → eqL (l.map g) (l.map h) = true
  | [], _, _, _ => rfl
  | r :: l, g, h, hh => by
    show (eqR (g r) (h r) && eqL (l.map g) (l.map h)) = true
    rw [hh r (List.mem_cons_self ..), eq_map l g h (fun q hq => hh q (List.mem_cons_of_mem _ hq))]; rfl
def dn (r : Nat) : Nat := if 65 ≤ r ∧ r < 91 then r + 32 else r
def upr (r : Nat) : Nat := if 97 ≤ r ∧ r < 123 then r - 32 else r
theorem dn_alike (r : Nat) : Alike r (dn r) := by
  unfold dn
  split
  · have := List.all_eq_true.1 k_let (r - 65) (List.mem_range.2 (by omega))
    rw [Nat.beq_eq, show 65 + (r - 65) = r by omega] at this
    exact ⟨1, by show nx r = r + 32; omega⟩
  · exact Alike.refl r
theorem up_alike (r : Nat) : Alike (upr r) r := by
  unfold upr
  split
  · have := List.all_eq_true.1 k_let (r - 97) (List.mem_range.2 (by omega))
    rw [Nat.beq_eq] at this
    exact ⟨1, by show nx (r - 32) = r; rw [show r - 32 = 65 + (r - 97) by omega]; omega⟩
  · exact Alike.refl r
theorem sc_small (x : Nat) (h : x < 55296) : sc (x : Int) = x := by unfold sc; rw [if_pos (by omega)]; omega
theorem down_rn (l : List UInt8) : rn (Lib.mapD (imgB ((upL 65 26).zip (upL 97 26))) l) = (rn l).map dn := by
  refine rn_map _ dn l (fun c hc => ?_)
  have hs := ch_sc hc
  rw [img_up]
  unfold dn
  by_cases h : 65 ≤ c.1 ∧ c.1 < 91
  · rw [if_pos (by omega), if_pos h]
    have e : (c.1 : Int) + (97 - 65) = ((c.1 + 32 : Nat) : Int) := by omega
    rw [e]
    exact ⟨rfl, sc_small _ (by omega)⟩
  · rw [if_neg (by omega), if_neg h]
    exact ⟨rfl, hs⟩
theorem up_rn (l : List UInt8) : rn (Lib.mapD (imgB ((upL 97 26).zip (upL 65 26))) l) = (rn l).map upr := by
  refine rn_map _ upr l (fun c hc => ?_)
  have hs := ch_sc hc
  rw [img_up]
  unfold upr
  by_cases h : 97 ≤ c.1 ∧ c.1 < 123
  · rw [if_pos (by omega), if_pos h]
    have e : (c.1 : Int) + (65 - 97) = ((c.1 - 32 : Nat) : Int) := by omega
    rw [e]
    exact ⟨rfl, sc_small _ (by omega)⟩
  · rw [if_neg (by omega), if_neg h]
    exact ⟨rfl, hs⟩
theorem up_len (l : List UInt8) (hw : (chs l).all okC = true) : (Lib.mapD (imgB ((upL 97 26).zip (upL 65 26))) l).length = l.length := by
  have hcs : (cat (chs l)).length = l.length := by rw [cat_chs]
  rw [map_cat, ← hcs]
  have hself : ∀ c ∈ chs l, encC (c.1 : Int) = c := fun c hc => ch_self hc (List.all_eq_true.1 hw c hc)
  clear hcs hw
  generalize chs l = cs at *
  induction cs with
  | nil => rfl
  | cons c cs ih =>
    have i := ih (fun d hd => hself d (List.mem_cons_of_mem _ hd))
    have hc : c.2 = Lib.encodeRune (c.1 : Int) := by
      have := congrArg Prod.snd (hself c (List.mem_cons_self ..))
      exact this.symm
    unfold mapCh at i ⊢
    rw [List.flatMap_cons, cat_append, List.length_append, i, cat_cons, List.length_append]
    congr 1
    rw [img_up]
    by_cases h : (97 : Int) ≤ (c.1 : Int) ∧ (c.1 : Int) < 97 + ((26 : Nat) : Int)
    · rw [if_pos h, if_pos (by omega), hc]
      simp only [cat, List.flatMap_cons, List.flatMap_nil, List.append_nil, encC]
      unfold Lib.encodeRune
      rw [List.length_map, List.length_map, Lib.encodeRuneZ_one (by omega) (by omega), Lib.encodeRuneZ_one (by omega) (by omega)]
      rfl
    · rw [if_neg h, if_pos (Int.natCast_nonneg _), hself c (List.mem_cons_self ..)]
      simp [cat]
theorem ivals_up (k : Nat) (a : Int) : ivals (upL a (k + 1)) = ivals (upL a k) ++ [.int .i32 (a + k)] := by
  unfold ivals; rw [upL_snoc, List.map_append]; rfl
/-- two rows of the call's own lie apart -/
def Far (v u : Value) : Prop := ∀ g, v.ownBlock = some g → u.ownBlock ≠ some g
theorem Far.kept {v u : Value} (h : Far v u) : u.ownBlock = none ∨ u.ownBlock ≠ v.ownBlock := by
  cases hu : u.ownBlock with
  | none => exact .inl rfl
  | some g => exact .inr fun e => h g e.symm hu
theorem Far.symm {v u : Value} (h : Far v u) : Far u v := fun g hu hv => h g hv hu
set_option maxRecDepth 100000 in
set_option maxHeartbeats 4000000 in
theorem walk (a0 : ByteArray) (w : World) (w0 : a0.size ≤ 1048576) (hT : Tabs w) (hF : Folds w) :
    Calls Tryd.prog 13 #[.string a0] w fun e w' => e = .returned (.bool true) ∧ Below w.heap.size w w' := by
  have HT := Lib.hid hT; have HF := Lib.hid hF; clear hT hF
  have CW := Lib.hid (fun (W : World) => spec_Whole a0 W (by omega))
  cases hw : (chs a0.data.toList).all okC
  · rw [hw] at CW
    clear hw
    go_enter Tryd.func13, Tryd.ntmps13
    go_wp2_with fail
    refine (CW.out _).mono ?_; rintro e w1 ⟨rfl, hb1⟩
    have B1 := Lib.hid hb1; clear hb1
    go_wp2_with fail
    go_ret
    exact ⟨rfl, B1.out⟩
  · rw [hw] at CW
    obtain ⟨i0, hi, hz0, hz1, hz2⟩ := info_parts Tryd.info32
    have CE := Lib.hid (fun (s t : ByteArray) (hs : s.size ≤ 140737488351232) (ht : t.size ≤ 140737488351232) (W : World) (hb : Below w.heap.size w W) => impl_EqualFold s t W hs ht (HT.out.below hb) (HF.out.below hb))
    have CT1 := Lib.hid (fun (a b : Option Addr) (ca cb : Nat) (W : World) (h1 : Lies W W.heap.size 1 a 26 (ivals (upL 65 26))) (h2 : Lies W W.heap.size 1 b 26 (ivals (upL 97 26))) => laws_table a b 26 26 ca cb (upL 65 26) (upL 97 26) W h1 h2 (by omega) (by omega))
    have CT2 := Lib.hid (fun (a b : Option Addr) (ca cb : Nat) (W : World) (h1 : Lies W W.heap.size 1 a 26 (ivals (upL 97 26))) (h2 : Lies W W.heap.size 1 b 26 (ivals (upL 65 26))) => laws_table a b 26 26 ca cb (upL 97 26) (upL 65 26) W h1 h2 (by omega) (by omega))
    have hs1 := up_small 26 65 97 (by omega) (by omega)
    have hs2 := up_small 26 97 65 (by omega) (by omega)
    have hz1l : ((upL 65 26).zip (upL 97 26)).length = 26 := by rw [List.length_zip, upL_len, upL_len]; rfl
    have hz2l : ((upL 97 26).zip (upL 65 26)).length = 26 := by rw [List.length_zip, upL_len, upL_len]; rfl
    have hd := down_rn a0.data.toList
    have hu := up_rn a0.data.toList
    have hul := up_len a0.data.toList hw
    have hml := mapped_len (imgB ((upL 65 26).zip (upL 97 26))) a0.data.toList
    generalize (upL 65 26).zip (upL 97 26) = rs at *
    generalize (upL 97 26).zip (upL 65 26) = rs2 at *
    have CM1 := Lib.hid (fun (a : Option Addr) (c : Nat) (W : World) (hb : Below w.heap.size w W) (h : Lies W W.heap.size 2 a rs.length (rcells rs)) => impl_Map a c rs a0 W (by omega) (HT.out.below hb) h (by omega) hs1)
    have CM2 := Lib.hid (fun (a : Option Addr) (c : Nat) (W : World) (hb : Below w.heap.size w W) (h : Lies W W.heap.size 2 a rs2.length (rcells rs2)) => impl_Map a c rs2 a0 W (by omega) (HT.out.below hb) h (by omega) hs2)
    obtain ⟨D, hD⟩ : ∃ D : ByteArray, (⟨(Lib.mapD (imgB rs) a0.data.toList).toArray⟩ : ByteArray) = D := ⟨_, rfl⟩
    obtain ⟨E, hE⟩ : ∃ E : ByteArray, (⟨(Lib.mapD (imgB rs2) a0.data.toList).toArray⟩ : ByteArray) = E := ⟨_, rfl⟩
    have hDd : Lib.mapD (imgB rs) a0.data.toList = D.data.toList := by rw [← hD]
    have hEd : Lib.mapD (imgB rs2) a0.data.toList = E.data.toList := by rw [← hE]
    rw [hDd] at hd hml
    rw [hEd] at hu hul
    rw [len_data, len_data] at hml hul
    rw [hD] at CM1
    rw [hE] at CM2
    have e1 : eqF a0.data.toList D.data.toList = true := by
      unfold eqF; rw [hd]
      have := eq_map (rn a0.data.toList) (fun r => r) dn (fun r _ => eqR_iff.2 (dn_alike r))
      rwa [List.map_id'] at this
    have e2 : eqF E.data.toList a0.data.toList = true := by
      unfold eqF; rw [hu]
      have := eq_map (rn a0.data.toList) upr (fun r => r) (fun r _ => eqR_iff.2 (up_alike r))
      rwa [List.map_id'] at this
    have e3 : eqF E.data.toList D.data.toList = true := by
      unfold eqF; rw [hu, hd]
      exact eq_map (rn a0.data.toList) upr dn (fun r _ => eqR_iff.2 ((up_alike r).trans (dn_alike r)))
    have CE1 := Lib.hid (fun (W : World) (hb : Below w.heap.size w W) => CE.out a0 D (by omega) (by omega) W hb)
    have CE2 := Lib.hid (fun (W : World) (hb : Below w.heap.size w W) => CE.out E a0 (by omega) (by omega) W hb)
    have CE3 := Lib.hid (fun (W : World) (hb : Below w.heap.size w W) => CE.out E D (by omega) (by omega) W hb)
    rw [e1] at CE1
    rw [e2] at CE2
    rw [e3] at CE3
    have hlen : ((E.size : Int) == (a0.size : Int)) = true := beq_iff_eq.2 (by omega)
    have hlenN : E.size = a0.size := hul
    clear CE hd hu hml hDd hEd hD hE e1 e2 e3 hs1 hs2 hw hul hz1l hz2l
    go_enter Tryd.func13, Tryd.ntmps13
    go_wp2_with fail
    refine (CW.out _).mono ?_; rintro e w1 ⟨rfl, hb1⟩
    have B1 := Lib.hid hb1; clear hb1
    go_wp2_with fail
    go_loopw [3, 4, 5] (fun v3 v4 v5 wr => ∃ k : Nat, k ≤ 26 ∧ v5 = .int .i32 (65 + (k : Int)) ∧ Hid (wr.ownsRow w.heap.size 21 1 v3 k (ivals (upL 65 k))) ∧ Hid (wr.ownsRow w.heap.size 21 1 v4 k (ivals (upL 97 k))) ∧ Hid (Far v3 v4) ∧ Hid (Below w.heap.size w wr)) (fun _ _ v5 _ => 91 - (intOf v5).toNat)
    case atStart => exact ⟨0, Nat.zero_le _, rfl, ⟨rfl, .inl ⟨rfl, rfl⟩⟩, ⟨rfl, .inl ⟨rfl, rfl⟩⟩, (fun g h => by cases h), B1.out⟩
    case round =>
      clear B1
      obtain ⟨k, hk, rfl, HO3, HO4, HFR, HB⟩ := hrel
      have hsz := HB.out.size
      by_cases hlt : k < 26
      · have HT3 := Lib.hid (ivals_up k 65); have HT4 := Lib.hid (ivals_up k 97)
        go_wp2_with (first
          | (at_builtin; refine wpList_append_lies _ rfl _ _ 33 rfl w.heap.size 21 i0 (.int .i32 0) 1 4 Tryd.underlying33 hi hz0 hz1 hz2 rfl (by decide) u3 k (ivals (upL 65 k)) rfl (HO3.out.alloc _) ⟨wr.heap.size, 0, none⟩ 1 1 [.int .i32 (65 + (k : Int))] rfl rfl (cells_new _ [.int .i32 (65 + (k : Int))] _) (by simp [Value.oneCell']) (by omega) (by unfold maxLen; omega) (by omega) (by simp; omega) (wr.heap.size + 1) (by simp) ?_; intro g5 c5 w5 hown5 hgrow5 hat5 hlt5; have HO5 := Lib.hid (show w5.ownsRow w.heap.size 21 1 (.slice (some ⟨g5, 0, none⟩) (k + 1) c5) (k + 1) (ivals (upL 65 (k + 1))) by rw [HT3.out]; exact hown5); have HB5 := Lib.hid ((HB.out.alloc hsz _).grown hgrow5 (by simp; omega) (fun q e => (HO3.out.lt q e).1)); have HO4b := Lib.hid ((HO4.out.alloc (.cells #[.int .i32 (65 + (k : Int))] 21)).kept hgrow5 HFR.out.kept); have HFR5 : Hid (Far (.slice (some ⟨g5, 0, none⟩) (k + 1) c5) u4) := (fun g hg hu => (by have hg' : g5 = g := (by simpa [Value.ownBlock] using hg); subst hg'; rcases hat5 with h | h; exact HFR.out _ h hu; have := (HO4.out.lt _ hu).2; omega)); have hsz5 := HB5.out.size; clear hown5 hgrow5 hat5)
          | (at_builtin; refine wpList_append_lies _ rfl _ _ 33 rfl w.heap.size 21 i0 (.int .i32 0) 1 4 Tryd.underlying33 hi hz0 hz1 hz2 rfl (by decide) u4 k (ivals (upL 97 k)) rfl (HO4b.out.alloc _) ⟨w5.heap.size, 0, none⟩ 1 1 [.int .i32 (65 + (k : Int) + 32)] rfl rfl (cells_new _ [.int .i32 (65 + (k : Int) + 32)] _) (by simp [Value.oneCell']) (by omega) (by unfold maxLen; omega) (by omega) (by simp; omega) (w5.heap.size + 1) (by simp) ?_; intro g6 c6 w6 hown6 hgrow6 hat6 hlt6; have HO6 := Lib.hid (show w6.ownsRow w.heap.size 21 1 (.slice (some ⟨g6, 0, none⟩) (k + 1) c6) (k + 1) (ivals (upL 97 (k + 1))) by rw [HT4.out, show (97 : Int) + (k : Int) = 65 + (k : Int) + 32 by omega]; exact hown6); have HB6 := Lib.hid ((HB5.out.alloc hsz5 _).grown hgrow6 (by simp; omega) (fun q e => (HO4b.out.lt q e).1)); have HO5b := Lib.hid ((HO5.out.alloc (.cells #[.int .i32 (65 + (k : Int) + 32)] 21)).kept hgrow6 HFR5.out.symm.kept); have HFR6 : Hid (Far (.slice (some ⟨g5, 0, none⟩) (k + 1) c5) (.slice (some ⟨g6, 0, none⟩) (k + 1) c6)) := (fun g hg hu => (by have hu' : g6 = g := (by simpa [Value.ownBlock] using hu); subst hu'; rcases hat6 with h | h; exact HFR5.out _ hg h; have hg' : g5 = g6 := (by simpa [Value.ownBlock] using hg); omega)); clear hown6 hgrow6 hat6))
        exact ⟨⟨k + 1, by omega, by go_num, HO5b.out, HO6.out, HFR6.out, HB6.out⟩, by simp [intOf]; omega⟩
      · obtain rfl : k = 26 := by omega
        obtain ⟨ga, ca, rfl⟩ := own_slice HO3.out
        obtain ⟨gb, cb, rfl⟩ := own_slice HO4.out
        have LA := Lib.hid (Lies.of_own HO3.out); have LB := Lib.hid (Lies.of_own HO4.out)
        clear HO3 HO4 HFR
        go_wp2_with fail
        refine (CT1.out ga gb ca cb _ LA.out LB.out).mono ?_; rintro e w2 ⟨ta, tc, rfl, hl2, hb2⟩
        have B2 := Lib.hid (HB.out.trans (hb2.mono HB.out.size)); have L2 := Lib.hid hl2; have LA2 := Lib.hid (LA.out.later hb2); have LB2 := Lib.hid (LB.out.later hb2); clear hb2 hl2
        go_wp2_with fail
        refine (CM1.out ta tc _ B2.out L2.out).mono ?_; rintro e w3 ⟨rfl, hb3⟩
        have B3 := Lib.hid (B2.out.trans (hb3.mono B2.out.size)); have LA3 := Lib.hid (LA2.out.later hb3); have LB3 := Lib.hid (LB2.out.later hb3); clear hb3
        go_wp2_with fail
        refine (CT2.out gb ga cb ca _ LB3.out LA3.out).mono ?_; rintro e w4 ⟨tb, tc2, rfl, hl4, hb4⟩
        have B4 := Lib.hid (B3.out.trans (hb4.mono B3.out.size)); have L4 := Lib.hid hl4; clear hb4 hl4
        go_wp2_with fail
        refine (CM2.out tb tc2 _ B4.out L4.out).mono ?_; rintro e w5 ⟨rfl, hb5⟩
        have B5 := Lib.hid (B4.out.trans (hb5.mono B4.out.size)); clear hb5
        go_wp2_with fail
        refine (CE1.out _ B5.out).mono ?_; rintro e w6 ⟨rfl, hb6⟩
        have B6 := Lib.hid (B5.out.trans (hb6.mono B5.out.size)); clear hb6
        go_wp2_with fail
        refine (CE2.out _ B6.out).mono ?_; rintro e w7 ⟨rfl, hb7⟩
        have B7 := Lib.hid (B6.out.trans (hb7.mono B6.out.size)); clear hb7
        go_wp2_with fail
        refine (CE3.out _ B7.out).mono ?_; rintro e w8 ⟨rfl, hb8⟩
        have B8 := Lib.hid (B7.out.trans (hb8.mono B7.out.size)); clear hb8
        go_wp2_with fail
        go_ret
        exact ⟨by first | rfl | simp [hlenN], B8.out⟩

set_option maxRecDepth 100000 in
theorem contract (H : Type) (enc : TypeId × Value → H) (W : World) (base : Nat) (args : Array Value) (ds gs : List (DataW H)) (before : List MemPlace)
    (hval0 : ∀ (j : Nat) t v, Tryd.f13.params[j]? = some t → args[j]? = some v → Value.okWide Tryd.prog W .any base t v)
    (hW : DataW.Whole enc Tryd.prog Tryd.f13.params.toList Rows.fnEqualFoldMapSpec.vars false W args.toList ds gs before)
    (hsz0 : (DataW.weightsEach Tryd.prog (Tryd.f13.params.toList ++ Rows.fnEqualFoldMapSpec.plain.varTypes Tryd.prog) (ds ++ gs)).all (· ≤ reachBytes) = true) (hk : Rows.uptoSmall H (ds ++ gs) = true) (hL : laidMetH Tryd.prog Rows.fnEqualFoldMapUptoRow.laid W) :
    Calls Tryd.prog 13 args W fun e W' => ∃ v, e = .returned v ∧ Rows.fnEqualFoldMapSpec.post enc Tryd.prog Tryd.f13 false true false false W args v W' := by
  have hval := hval0
  have hsz := hsz0
  clear hval0 hsz0
  have hW' := hW
  obtain ⟨p, q, hA0, hV, rfl, hfz, hnd⟩ := hW
  have hA : DataW.TrodAll enc Tryd.prog W 0 (fun _ => true) true Tryd.f13.params.toList args.toList ds p := hA0
  rw [Tryd.params13] at hA hval hsz
  obtain ⟨v0, vs0, d0, ds0, p0, q0, hargs, rfl, rfl, h0, r0x⟩ := trodAll_cons hA
  obtain ⟨rfl, rfl, rfl⟩ := trodAll_nil r0x
  obtain rfl : args = #[v0] := by cases args; simp_all
  obtain ⟨rfl, rfl⟩ := trodVars_none hV
  have hbulk := of_decide_eq_true hk
  obtain ⟨a0, rfl, rfl, rfl, x0⟩ := open_string Tryd.underlying9 (hval 0 9 v0 rfl rfl) h0
  clear hA0
  have w0 : a0.size ≤ 1048576 := by
    simp only [Rows.uptoBulkAll, Rows.uptoBulk, List.append_nil] at hbulk
    have e : a0.data.toList.length = a0.size := by rw [Array.length_toList]; rfl
    omega
  refine (walk a0 W w0 (tabs_of hL (by unfold Rows.fnEqualFoldMapUptoRow; simp) (by unfold Rows.fnEqualFoldMapUptoRow; simp)) (folds_of hL (by unfold Rows.fnEqualFoldMapUptoRow; simp) (by unfold Rows.fnEqualFoldMapUptoRow; simp) (by unfold Rows.fnEqualFoldMapUptoRow; simp))).mono fun e W' ⟨he, bel⟩ => ?_
  subst he
  exact ⟨_, rfl, _, _, _, [], _, [], hW', trodAll_mk1 (shut_bool Tryd.underlying4 _), (trodAll_cons_mk (shut_string Tryd.underlying9 x0) trodAll_mk0), rfl, bel.frame _, fun h => by cases h⟩

theorem laid_met (os : Os) : laidMet Tryd.prog Rows.fnEqualFoldMapUptoRow.laid ((laidWorldF os).forCall (fun _ _ => 0) ⟨#[], #[.string ByteArray.empty], []⟩).memory :=
  laidF_met os _
theorem reads (os : Os) {H : Type} (enc : TypeId × Value → H) : ∃ places, DataW.whole enc Tryd.prog ((laidWorldF os).forCall (fun _ _ => 0) ⟨#[], #[.string ByteArray.empty], []⟩).memory Tryd.f13.params.toList Rows.fnEqualFoldMapSpec.vars false (#[.string ByteArray.empty] : Array Value).toList 8 = some ([.lit (.string [])], [], places) :=
  ⟨[], by kernel_rfl⟩
set_option maxRecDepth 100000 in
theorem lifted (os : Os) (started : os.Started) (H : Type) (enc : TypeId × Value → H) (F : Stop.Interp) :
    ReturnsInHanded {} Tryd.checked os 13 .any ((Rows.OpenSpec.upto Rows.fnEqualFoldMapSpec).preRow enc Tryd.prog Tryd.f13 Rows.fnEqualFoldMapUptoRow.domain false Rows.fnEqualFoldMapUptoRow.laid) (((Rows.OpenSpec.upto Rows.fnEqualFoldMapSpec).at F).post enc Tryd.prog Tryd.f13 false true false false) := by
  obtain ⟨places, hx⟩ := reads os enc
  refine returnsInHanded_of_row (C := Tryd.checked) (s := Rows.OpenSpec.upto Rows.fnEqualFoldMapSpec) own started (by kernel_rfl) Tryd.func13
    (witness_row_atRef (enc := enc) (C := Tryd.checked) false (laidWorldF os) #[.string ByteArray.empty] rfl (by kernel_rfl) (by kernel_rfl) (by kernel_rfl)
      (OpenSpec.preRow_of_cond 8 hx (by kernel_rfl) (fun k hk => by cases hk; kernel_rfl) (by kernel_rfl) (laid_met os))) ?_
  intro W base args ds gs before hval0 hW _ hcond hsz0 hL _ _
  exact contract H enc W base args ds gs before hval0 hW hsz0 (hcond _ rfl) hL

theorem said : Rows.FnEqualFoldMapUptoSaid :=
  OpenClaim.holds_of_cond 13 Tryd.f13 rfl rfl rfl rfl rfl rfl rfl ⟨rfl, rfl, rfl, rfl, rfl⟩ rfl rfl rfl rfl rfl (by kernel_rfl) Tryd.func13 (by kernel_rfl)
    (of_decide_eq_true (by kernel_rfl)) (by unfold Func.isWrapper; first | (rw [if_pos (by decide +kernel)]; kernel_rfl) | (rw [if_neg (by decide +kernel)]; exact ⟨rfl, rfl⟩))
    (fun os started H enc _ F => by rw [OpenClaim.pre_eq_preRow]; exact lifted os started H enc F)

theorem plain (f : FuncId) (fn : Func) (hf : Tryd.pinned.checked.prog.funcNamed Rows.fnEqualFoldMapUptoRow.func = some f) (hfn : Tryd.pinned.checked.prog.funcs[f]? = some fn) :
    false = Tryd.pinned.checked.prog.looks [] ∧ ∀ (j : Nat) t, fn.params[j]? = some t → Tryd.pinned.checked.prog.wantsStandIn t = false := by
  obtain rfl : f = 13 := Option.some.inj ((show Tryd.prog.funcNamed Rows.fnEqualFoldMapUptoRow.func = some 13 by kernel_rfl).symm.trans hf) |>.symm
  obtain rfl : fn = Tryd.f13 := (Option.some.inj (Tryd.func13.symm.trans hfn)).symm
  refine ⟨by kernel_rfl, fun j t ht => ?_⟩
  rw [Tryd.params13] at ht
  have hm := Array.mem_of_getElem? ht
  simp only [List.mem_toArray, List.mem_cons, List.mem_nil_iff, or_false] at hm
  subst hm
  exact (show Tryd.prog.wantsStandIn 9 = false by kernel_rfl)

theorem proved : Rows.FnEqualFoldMapUptoCardSaid :=
  Claim7.holds_tied_plain_at .later [] _ _ _ _ said (fun _ h => by cases h) (by kernel_rfl) (fun _ h => by cases h) fnEqualFoldMapUpto_row_tie rfl ⟨rfl, rfl⟩ (by kernel_rfl) rfl plain (by kernel_rfl)
#print axioms proved
end Go.Proofs.YtlgibcphfmjddaaDoor.fnEqualFoldMapUpto
