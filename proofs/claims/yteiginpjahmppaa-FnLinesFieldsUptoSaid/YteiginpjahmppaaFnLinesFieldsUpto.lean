/-
  For every text the law FnLinesFields returns true and changes nothing: lines without their line feeds, the empty ones left out, are the fields between line feeds. Condition: what comes in is of bulk at most 1048576 (the second form).
-/
import Derived.Test.YteiginpjahmppaaRows
import Derived.Test.YteiginpjahmppaaLineIt
import Derived.Test.YteiginpjahmppaaGlue
import Derived.Test.YteiginpjahmppaaImplTS
import Derived.Test.YteiginpjahmppaaFieldsI
import Derived.Test.YteiginpjahmppaaHold
import Derived.Test.YteiginpjahmppaaSame
import Derived.Test.YteiginpjahmppaaCh
import Derived.WalkKit
import Derived.ProofKit
import Derived.OpenShut
import Derived.ShutString
import Derived.ChangeOld
import Derived.Below
import Derived.SizedLaws
import Derived.Lib.SmallJoins
import Derived.Deep.CondSized
namespace Go.Proofs.Yteiginpjahmppaa.fnLinesFieldsUpto
open Go.ChangeShapes Go.WideShapes Go.ChangeAt Go.RowKit Go.Joins
open Go.ChangeMaps (open_string shut_string)
set_option linter.unusedVariables false

theorem own : ownKnob Try.prog.godebug = none := by kernel_rfl
theorem laidOut : laidOutB Try.prog = true := by kernel_rfl
theorem lin_flat : ∀ (l cur : List UInt8), (linC cur l).flatten = cur ++ l
  | [], cur => by by_cases h : cur = [] <;> simp [linC, h]
  | c :: l, cur => by
    simp only [linC]
    split
    · simp [lin_flat l []]
    · rw [lin_flat l]; simp
theorem lin_parts : ∀ (l cur : List UInt8), (∀ b ∈ cur, b ≠ 10) → ∀ j (hj : j < (linC cur l).length), (linC cur l)[j] ≠ [] ∧ ((∃ q, (linC cur l)[j] = q ++ [10] ∧ ∀ b ∈ q, b ≠ 10) ∨ ((∀ b ∈ (linC cur l)[j], b ≠ 10) ∧ j + 1 = (linC cur l).length))
  | [], cur, hc, j, hj => by
    by_cases h : cur = []
    · subst h; simp [linC] at hj
    · have e : linC cur [] = [cur] := by simp [linC, h]
      simp only [e] at hj ⊢
      obtain rfl : j = 0 := by simpa using hj
      exact ⟨h, .inr ⟨hc, rfl⟩⟩
  | c :: l, cur, hc, j, hj => by
    by_cases h : c = 10
    · subst h
      have e : linC cur (10 :: l) = (cur ++ [10]) :: linC [] l := by simp [linC]
      simp only [e] at hj ⊢
      cases j with
      | zero => exact ⟨by simp, .inl ⟨cur, rfl, hc⟩⟩
      | succ j =>
        have ih := lin_parts l [] (by simp) j (by simpa using hj)
        simp only [List.getElem_cons_succ, List.length_cons]
        refine ⟨ih.1, ?_⟩
        rcases ih.2 with h | ⟨h1, h2⟩
        · exact .inl h
        · exact .inr ⟨h1, by omega⟩
    · have e : linC cur (c :: l) = linC (cur ++ [c]) l := by simp [linC, h]
      simp only [e] at hj ⊢
      exact lin_parts l (cur ++ [c]) (fun b hb => by rcases List.mem_append.1 hb with hb | hb; exact hc b hb; simp at hb; rw [hb]; exact h) j hj
theorem glue_lines (s : ByteArray) : glueL (linesB s) = s.data.toList := by
  have := lin_flat s.data.toList []
  rw [List.nil_append] at this
  unfold glueL linesB
  rw [List.flatMap_map]
  simpa [ofL, List.flatMap_id'] using this
/-- without its line feed -/
def ts (l : List UInt8) : List UInt8 := Lib.trimSuffix l [10]
theorem ts_yes (l : List UInt8) : ts (l ++ [10]) = l := by
  unfold ts Lib.trimSuffix Lib.hasSuffix
  rw [if_pos (by rw [List.isSuffixOf_iff_suffix]; exact ⟨l, rfl⟩)]
  simp
theorem ts_no (l : List UInt8) (h : ∀ b ∈ l, b ≠ 10) : ts l = l := by
  unfold ts Lib.trimSuffix Lib.hasSuffix
  rw [if_neg]
  intro hs
  rw [List.isSuffixOf_iff_suffix] at hs
  obtain ⟨t, e⟩ := hs
  exact h 10 (by rw [← e]; simp) rfl
theorem lin_skip : ∀ (c : List UInt8) (cur r : List UInt8), (∀ b ∈ c, b ≠ 10) → linC cur (c ++ r) = linC (cur ++ c) r
  | [], cur, r, _ => by simp
  | b :: c, cur, r, h => by
    have hb := h b (by simp)
    simp only [List.cons_append, linC, hb, if_false]
    rw [lin_skip c (cur ++ [b]) r (fun x hx => h x (by simp [hx]))]
    simp
/-- a chunk is a line feed, or has none -/
theorem chunk_feed {l : List UInt8} {c : Ch} (h : c ∈ chs l) : (c.1 = 10 ∧ c.2 = [10]) ∨ (c.1 ≠ 10 ∧ ∀ b ∈ c.2, b ≠ 10) := by
  have h1 := chs_mem h
  have hne := chs_ne h
  rw [chs_cons _ hne] at h1
  simp only [List.cons.injEq] at h1
  have hd : Lib.decodeL c.2 = (c.1, c.2.length) := by
    have e1 : (Lib.decodeL c.2).1 = c.1 := congrArg Prod.fst h1.1
    have e2 : c.2.take (Lib.decodeL c.2).2 = c.2 := congrArg Prod.snd h1.1
    have e3 := congrArg List.length e2
    rw [List.length_take] at e3
    have := dL_le _ hne
    exact Prod.ext e1 (by show (Lib.decodeL c.2).2 = c.2.length; omega)
  have hs := Lib.decodeN_shape c.2.length (c.2.getD 0 0).toNat (c.2.getD 1 0).toNat (c.2.getD 2 0).toNat (c.2.getD 3 0).toNat
  rw [← Lib.decodeL_N, hd] at hs
  simp only [Prod.mk.injEq] at hs
  have key : ∀ (k : Nat), k < c.2.length → (c.2.getD k 0) = c.2[k]! := fun k hk => by simp [List.getD, hk]
  have big : (∀ k, k < c.2.length → 128 ≤ (c.2.getD k 0).toNat) → ∀ b ∈ c.2, b ≠ 10 := by
    intro hk b hb e
    obtain ⟨k, hk', e'⟩ := List.mem_iff_getElem.1 hb
    have := hk k hk'
    rw [List.getD_eq_getElem?_getD, List.getElem?_eq_getElem hk', e', e] at this
    simp at this
  rcases hs with ⟨q, er, es⟩ | ⟨q0, q1, q2, q3, er, es⟩ | ⟨q0, q1, q2, q3, q4, q5, er, es⟩ | ⟨q0, q1, q2, q3, q4, q5, q6, er, es⟩ | ⟨er, es⟩
  · obtain ⟨b, e⟩ : ∃ b, c.2 = [b] := List.length_eq_one_iff.1 es
    rw [e] at er
    have er' : c.1 = b.toNat := by simpa using er
    by_cases hb : b = 10
    · left; rw [e, er', hb]; exact ⟨rfl, rfl⟩
    · right
      refine ⟨fun h10 => hb ?_, fun x hx => by rw [e] at hx; simp at hx; rw [hx]; exact hb⟩
      apply UInt8.toNat_inj.1
      rw [← er', h10]; rfl
  · right
    refine ⟨by omega, big (fun k hk => ?_)⟩
    rcases (by omega : k = 0 ∨ k = 1) with rfl | rfl <;> omega
  · right
    refine ⟨by omega, big (fun k hk => ?_)⟩
    rcases (by omega : k = 0 ∨ k = 1 ∨ k = 2) with rfl | rfl | rfl <;> omega
  · right
    refine ⟨by omega, big (fun k hk => ?_)⟩
    rcases (by omega : k = 0 ∨ k = 1 ∨ k = 2 ∨ k = 3) with rfl | rfl | rfl | rfl <;> omega
  · right
    refine ⟨by omega, ?_⟩
    obtain ⟨b, e⟩ : ∃ b, c.2 = [b] := List.length_eq_one_iff.1 es
    intro x hx hx10
    rw [e] at hx; simp at hx
    rw [e] at hd
    have hbn : b = 10 := by rw [← hx, hx10]
    rw [hbn] at hd
    have : Lib.decodeL [10] = (10, 1) := by decide
    rw [this, er] at hd
    simp at hd
theorem runs_lines (p : Nat → Bool) (hp : ∀ x, p x = decide (x = 10)) : ∀ (cs cur : List Ch), (∀ c ∈ cs, (c.1 = 10 ∧ c.2 = [10]) ∨ (c.1 ≠ 10 ∧ ∀ b ∈ c.2, b ≠ 10)) → (∀ b ∈ cat cur, b ≠ 10) → (cur ≠ [] → cat cur ≠ []) → (∀ c ∈ cs, c.2 ≠ []) →
    ((linC (cat cur) (cat cs)).map ts).filter (fun x => !x.isEmpty) = (runsC p cur cs).map cat
  | [], cur, _, hc, hn, _ => by
    by_cases h : cur = []
    · subst h; simp [runsC, cat_nil, linC]
    · have := hn h
      simp [runsC, h, cat_nil, linC, this, ts_no _ hc]
  | c :: cs, cur, hcs, hc, hn, hne => by
    rcases hcs c (by simp) with ⟨e1, e2⟩ | ⟨e1, e2⟩
    · have ih := runs_lines p hp cs [] (fun d hd => hcs d (by simp [hd])) (by simp [cat]) (fun q => absurd rfl q) (fun d hd => hne d (by simp [hd]))
      rw [cat_nil] at ih
      rw [cat_cons, e2]
      have hpc : p c.1 = true := by rw [hp, e1]; rfl
      simp only [List.singleton_append, linC, if_true, List.map_cons, ts_yes, runsC, hpc, List.filter_cons, ih, List.map_append]
      by_cases h : cur = []
      · subst h; simp [cat_nil]
      · have := hn h
        simp [h, this]
    · have hpc : p c.1 = false := by rw [hp]; simp [e1]
      have hx : cat (cur ++ [c]) = cat cur ++ c.2 := by rw [cat_append]; simp [cat]
      have ih := runs_lines p hp cs (cur ++ [c]) (fun d hd => hcs d (by simp [hd])) (by rw [hx]; intro b hb; rcases List.mem_append.1 hb with hb | hb; exact hc b hb; exact e2 b hb) (fun _ e => by rw [hx, List.append_eq_nil_iff] at e; exact hne c (by simp) e.2) (fun d hd => hne d (by simp [hd]))
      rw [cat_cons, lin_skip c.2 _ _ e2, ← hx, ih]
      simp [runsC, hpc]
/-- lines without their line feeds that are not empty, of the first k ones -/
def kept (L : List ByteArray) (k : Nat) : List ByteArray := ((L.take k).map fun x => ofL (ts x.data.toList)).filter fun x => decide (x.size ≠ 0)
theorem kept_succ (L : List ByteArray) (k : Nat) (h : k < L.length) : kept L (k + 1) = kept L k ++ (if (ofL (ts L[k].data.toList)).size ≠ 0 then [ofL (ts L[k].data.toList)] else []) := by
  unfold kept
  rw [List.take_succ_eq_append_getElem h, List.map_append, List.filter_append]
  congr 1
  simp only [List.map_cons, List.map_nil, List.filter_cons, List.filter_nil]
  by_cases q : (ofL (ts L[k].data.toList)).size ≠ 0
  · rw [if_pos q, if_pos (by simpa using q)]
  · rw [if_neg q, if_neg (by simpa using q)]
theorem kept_len (L : List ByteArray) (k : Nat) (hk : k ≤ L.length) : (kept L k).length ≤ k := by
  unfold kept
  have := List.length_filter_le (fun x : ByteArray => decide (x.size ≠ 0)) ((L.take k).map fun x => ofL (ts x.data.toList))
  rw [List.length_map, List.length_take] at this
  omega
theorem kept_all (s : ByteArray) : kept (linesB s) (linesB s).length = fieldsP (fun x => holdB [10] false x) s := by
  have hp : ∀ x : Nat, holdB [10] false x = decide (x = 10) := fun x => by
    unfold holdB
    by_cases h : x = 10
    · subst h; rfl
    · rw [if_neg (by simp; omega)]; simp [h]
  have h1 := runs_lines (fun x => holdB [10] false x) hp (chs s.data.toList) [] (fun c hc => chunk_feed hc) (by simp [cat]) (fun q => absurd rfl q) (fun c hc => chs_ne hc)
  rw [cat_nil, cat_chs] at h1
  have h2 := fields_ch (fun x => holdB [10] false x) s
  rw [← h1] at h2
  have h3 : fieldsP (fun x => holdB [10] false x) s = (((linC [] s.data.toList).map ts).filter (fun x => !x.isEmpty)).map ofL := by
    rw [← h2, List.map_map]
    conv => lhs; rw [← List.map_id (fieldsP (fun x => holdB [10] false x) s)]
    apply List.map_congr_left
    intro x _
    show x = ofL x.data.toList
    cases x; simp [ofL]
  rw [h3]
  unfold kept linesB
  rw [List.take_length, List.map_map]
  have h4 : (fun x : ByteArray => ofL (ts x.data.toList)) ∘ ofL = ofL ∘ ts := by
    funext x; simp [ofL]
  rw [h4, ← List.map_map]
  generalize (linC [] s.data.toList).map ts = M
  induction M with
  | nil => rfl
  | cons m M ih =>
    simp only [List.map_cons, List.filter_cons]
    have hm : decide ((ofL m).size ≠ 0) = !m.isEmpty := by
      rw [← len_data]
      cases m <;> simp [ofL]
    rw [hm]
    split
    · rw [List.map_cons, ih]
    · exact ih
set_option maxHeartbeats 1000000 in
theorem walk (a0 : ByteArray) (w : World) (w0 : a0.size ≤ 1048576) :
    Calls Try.prog 3 #[.string a0] w fun e w' => e = .returned (.bool true) ∧ Below w.heap.size w w' := by
  obtain ⟨i0, hi, hz0, hz1, hz2⟩ := info_parts Try.infoStr
  have hLn := linesB_len a0
  have HG := Lib.hid (glue_lines a0)
  have HK := Lib.hid (kept_all a0)
  have HKS := Lib.hid (kept_succ (linesB a0))
  have hKL := kept_len (linesB a0)
  have CI := Lib.hid (fun (W : World) => impl_Lines a0 W (by omega))
  have hGl : (glueL (linesB a0)).length ≤ 1048576 := by rw [HG.out, len_data]; exact w0
  have HSZ := Lib.hid (show ∀ k (h : k < (linesB a0).length), (linesB a0)[k].size ≤ 9223372036854775807 from fun k h => by
    have h1 := glue_take (linesB a0) k h
    have h2 := glue_le (linesB a0) (k + 1)
    rw [h1, List.length_append, len_data] at h2
    omega)
  generalize hLL : linesB a0 = L at *
  have CF := Lib.hid (fun (a : Option Addr) (c : Nat) (W : World) (h : Lies W W.heap.size 1 a 1 (ints [10])) => impl_FieldsFunc a 1 c [10] false a0 W (by omega) h (by omega))
  rw [← HK.out] at CF
  clear hLL
  go_enter Try.func3, Try.ntmps3
  go_wp2_with fail
  refine (CI.out w).mono ?_; rintro e w1 ⟨g, c, rfl, ho1, hb1⟩
  have O1 := Lib.hid ho1; have B1 := Lib.hid hb1
  clear ho1 hb1
  go_wp2_with fail
  go_loopw [3, 10] (fun v vi wx => ∃ k : Nat, k ≤ L.length ∧ vi = .int .i64 (k : Int) ∧ Hid (wx.ownsRow w1.heap.size 9 1 v (kept L k).length (strs (kept L k))) ∧ Hid (Below w1.heap.size w1 wx)) (fun _ vi _ => L.length - (intOf vi).toNat)
  case atStart => exact ⟨0, Nat.zero_le _, rfl, World.ownsRow_nil _ _ _ _, Below.refl _ _⟩
  case round =>
    obtain ⟨k, hk, rfl, HO, HB⟩ := hrel
    have hkl := hKL k hk
    have hsz := HB.out.size
    by_cases hlt : k < L.length
    · have hgl : g < w1.heap.size := (O1.out.lt _ rfl).2
      have hc : wr.cell? ⟨g, k, none⟩ = some (.string L[k]) := by
        have := O1.out.cellAt k (by omega)
        rw [HB.out.cell (p := ⟨g, k, none⟩) hgl, this]; simp [strs, hlt]
      have hks := HKS.out k hlt
      have hfs := HSZ.out k hlt
      generalize L[k] = F at *
      have HTS := Lib.hid (show (⟨(Lib.trimSuffix F.data.toList (⟨#[10]⟩ : ByteArray).data.toList).toArray⟩ : ByteArray) = ofL (ts F.data.toList) from rfl)
      generalize ofL (ts F.data.toList) = E at *
      by_cases hE : E.size = 0
      · rw [if_neg (by simpa using hE), List.append_nil] at hks
        have HS := Lib.hid hks
        have he : E.toList.isEmpty = true := by rw [Lib.toList_data, List.isEmpty_iff, ← List.length_eq_zero_iff, len_data]; exact hE
        clear hks hE
        generalize kept L k = M at *
        go_wp2_with fail
        refine (impl_TrimSuffix F ⟨#[10]⟩ hfs _).mono ?_; rintro e w4 ⟨rfl, rfl⟩; rw [HTS.out]
        go_wp2_with fail
        exact ⟨⟨k + 1, by omega, rfl, by rw [HS.out]; exact HO.out, HB.out⟩, by simp [intOf]; omega⟩
      · rw [if_pos hE] at hks
        have HS := Lib.hid hks
        have he : E.toList.isEmpty = false := by
          rw [Lib.toList_data]; cases h : E.data.toList
          · rw [← len_data, h] at hE; simp at hE
          · rfl
        clear hks hE
        generalize kept L k = M at *
        go_wp2_with fail
        refine (impl_TrimSuffix F ⟨#[10]⟩ hfs _).mono ?_; rintro e w4 ⟨rfl, rfl⟩; rw [HTS.out]
        go_wp2_with (at_builtin; refine wpList_append_own _ rfl _ _ 22 rfl w1.heap.size 9 i0 (.string ⟨#[]⟩) 1 16 Try.underlying22 hi hz0 hz1 hz2 rfl (by decide) _ _ _ rfl (HO.out.alloc _) ⟨wr.heap.size, 0, none⟩ 1 1 [.string E] rfl rfl (cell_one_new _ _ _) (str_one _) (by unfold maxLen; omega) (by omega) (by simp; omega) ?_; intro v' w3 hown3 hgrow3 hnil3)
        have hB3 := (HB.out.alloc hsz (.cells #[.string E] 9)).grown hgrow3 (by simp; omega) (fun q h => (HO.out.lt q h).1)
        exact ⟨⟨k + 1, by omega, rfl, Lib.hid (by rw [HS.out]; simpa [strs] using hown3), hB3⟩, by simp [intOf]; omega⟩
    · obtain rfl : k = L.length := by omega
      obtain ⟨a2, c2, hv⟩ := own_slice HO.out
      subst hv
      have B2 := Lib.hid (B1.out.trans (HB.out.mono B1.out.size))
      have HLi := Lib.hid (show Lies wr wr.heap.size 1 a2 (kept L L.length).length (strs (kept L L.length)) from Lies.of_own HO.out)
      generalize kept L L.length = M at *
      have hnew := Lib.hid (show Lies (wr.alloc (.cells #[.int .i32 10] 21)) (wr.alloc (.cells #[.int .i32 10] 21)).heap.size 1 (some ⟨wr.heap.size, 0, none⟩) 1 (ints [10]) from ⟨rfl, fun _ => ⟨wr.heap.size, 0, rfl, by simp, fun j hj => by
        have : j = 0 := by simp [ints] at hj; omega
        subst this
        rw [World.cell?_alloc_at _ _ _ _ rfl]; rfl⟩⟩)
      have ha1 := Lib.hid ((Below.refl wr.heap.size wr).alloc (Nat.le_refl _) (.cells #[.int .i32 10] 21))
      go_wp2_with fail
      refine (laws_test (some ⟨wr.heap.size, 0, none⟩) 1 1 [10] false _ (fun h => by cases h) hnew.out (by omega)).mono ?_; rintro e w5 ⟨a5, c5, rfl, hl5, hb5⟩
      have B5w := Lib.hid (ha1.out.trans (hb5.mono ha1.out.size))
      have L5 := Lib.hid hl5
      clear hb5 hl5
      go_wp2_with fail
      refine (CF.out a5 c5 _ L5.out).mono ?_; rintro e w6 ⟨g6, c6, rfl, ho6, hb6⟩
      have B6w := Lib.hid (B5w.out.trans (hb6.mono B5w.out.size))
      have E1 := Lib.hid (HLi.out.later B6w.out)
      have E2 := Lib.hid (show Lies w6 w6.heap.size 1 (some ⟨g6, 0, none⟩) M.length (strs M) from Lies.of_own ho6)
      clear hb6 ho6
      go_wp2_with fail
      refine (laws_same a2 (some ⟨g6, 0, none⟩) c2 c6 M _ E1.out E2.out (by omega)).mono ?_; rintro e w7 ⟨rfl, hd7⟩
      have B7 := Lib.hid (B2.out.trans ((B6w.out.trans ((hd7.below w6.heap.size).mono B6w.out.size)).mono B2.out.size))
      clear hd7
      go_wp2_with fail
      refine (CI.out _).mono ?_; rintro e w8 ⟨g8, c8, rfl, ho8, hb8⟩
      have B8 := Lib.hid (B7.out.trans (hb8.mono B7.out.size))
      have L8 := Lib.hid (show Lies w8 w8.heap.size 1 (some ⟨g8, 0, none⟩) L.length (strs L) from Lies.of_own ho8)
      clear hb8 ho8
      go_wp2_with fail
      refine (laws_glued _ c8 L _ L8.out (by omega) (by omega)).mono ?_; rintro e w9 ⟨rfl, hb9⟩
      have hS : (⟨(glueL L).toArray⟩ : ByteArray) = a0 := by rw [HG.out]
      rw [hS]
      go_wp2_with fail
      go_ret
      exact ⟨rfl, B8.out.trans (hb9.mono B8.out.size)⟩

theorem contract (H : Type) (enc : TypeId × Value → H) (W : World) (base : Nat) (args : Array Value) (ds gs : List (DataW H)) (before : List MemPlace)
    (hval0 : ∀ (j : Nat) t v, Try.f3.params[j]? = some t → args[j]? = some v → Value.okWide Try.prog W .any base t v)
    (hW : DataW.Whole enc Try.prog Try.f3.params.toList Rows.fnLinesFieldsSpec.vars false W args.toList ds gs before)
    (hsz0 : (DataW.weightsEach Try.prog (Try.f3.params.toList ++ Rows.fnLinesFieldsSpec.plain.varTypes Try.prog) (ds ++ gs)).all (· ≤ reachBytes) = true) (hk : Rows.uptoSmall H (ds ++ gs) = true) :
    Calls Try.prog 3 args W fun e W' => ∃ v, e = .returned v ∧ Rows.fnLinesFieldsSpec.post enc Try.prog Try.f3 false true false false W args v W' := by
  have hval := hval0
  have hsz := hsz0
  clear hval0 hsz0
  have hW' := hW
  obtain ⟨p, q, hA0, hV, rfl, hfz, hnd⟩ := hW
  have hA : DataW.TrodAll enc Try.prog W 0 (fun _ => true) true Try.f3.params.toList args.toList ds p := hA0
  rw [Try.params3] at hA hval hsz
  obtain ⟨v0, vs0, d0, ds0, p0, q0, hargs, rfl, rfl, h0, r0x⟩ := trodAll_cons hA
  obtain ⟨rfl, rfl, rfl⟩ := trodAll_nil r0x
  obtain rfl : args = #[v0] := by cases args; simp_all
  obtain ⟨rfl, rfl⟩ := trodVars_none hV
  have hbulk := of_decide_eq_true hk
  obtain ⟨a0, rfl, rfl, rfl, x0⟩ := open_string Try.underlying9 (hval 0 9 v0 rfl rfl) h0
  clear hA0
  have w0 : a0.size ≤ 1048576 := by
    simp only [Rows.uptoBulkAll, Rows.uptoBulk, List.append_nil] at hbulk
    have e : a0.data.toList.length = a0.size := by rw [Array.length_toList]; rfl
    omega
  refine (walk a0 W w0).mono fun e W' ⟨he, bel⟩ => ?_
  subst he
  exact ⟨_, rfl, _, _, _, [], _, [], hW', trodAll_mk1 (shut_bool Try.underlying4 _), (trodAll_cons_mk (shut_string Try.underlying9 x0) trodAll_mk0), rfl, bel.frame _, fun h => by cases h⟩

set_option maxRecDepth 100000 in
theorem lifted (os : Os) (started : os.Started) (H : Type) (enc : TypeId × Value → H) (F : Stop.Interp) :
    ReturnsInHanded {} Try.checked os 3 .any ((Rows.OpenSpec.upto Rows.fnLinesFieldsSpec).pre6 enc Try.prog Try.f3 Rows.fnLinesFieldsUptoRow.domain false) (((Rows.OpenSpec.upto Rows.fnLinesFieldsSpec).at F).post enc Try.prog Try.f3 false true false false) := by
  refine returnsInHanded_of_cond_sized (C := Try.checked) (s := Rows.OpenSpec.upto Rows.fnLinesFieldsSpec) (k := Rows.uptoSmall) rfl own started (by kernel_rfl) Try.func3
    (OpenSpec.witness (enc := enc) (C := Try.checked) (s := Rows.OpenSpec.upto Rows.fnLinesFieldsSpec) (k := Rows.uptoSmall) rfl false ⟨#[], #[.string ByteArray.empty], []⟩ 8 (by kernel_rfl) (by kernel_rfl) (by kernel_rfl)
      (x := ([.lit (.string [])], [], [])) (by kernel_rfl) rfl (by kernel_rfl)) ?_
  intro W base args ds gs before hval0 hW _ hk hsz0 _
  exact contract H enc W base args ds gs before hval0 hW hsz0 hk

theorem proved : Rows.FnLinesFieldsUptoSaid :=
  OpenClaim.holds_of_cond 3 Try.f3 rfl rfl rfl rfl rfl rfl rfl ⟨rfl, rfl, rfl, rfl, rfl⟩ rfl rfl rfl rfl rfl (by kernel_rfl) Try.func3 (by kernel_rfl)
    (of_decide_eq_true (by kernel_rfl)) (by unfold Func.isWrapper; first | (rw [if_pos (by decide +kernel)]; kernel_rfl) | (rw [if_neg (by decide +kernel)]; exact ⟨rfl, rfl⟩))
    (fun os started H enc _ F => lifted os started H enc F)
#print axioms proved
end Go.Proofs.Yteiginpjahmppaa.fnLinesFieldsUpto
