/-
  The library's FieldsFuncSeq: what its iterator tells, where it is handed a method value of a test. Conditions: the tables of unicode/utf8 are as their initialisers lay them; the text's length is at most 2^40.
-/
import Derived.Test.YteiginpjahmppaaDoorGath
import Derived.Test.YteiginpjahmppaaDoorShelf
import Derived.Test.YteiginpjahmppaaDoorTabs
import Derived.Test.YteiginpjahmppaaDoorTest
import Derived.Test.YteiginpjahmppaaDoorFf
import Derived.Test.YteiginpjahmppaaDoorPieces
import Derived.Laws.EntriesVeiled
import Derived.Test.YteiginpjahmppaaDoorNewS
namespace Go.Proofs.YteiginpjahmppaaDoor
open Go.RowKit Go.Shelf
set_option linter.unusedVariables false
attribute [local go_sem] Oper.semAt_some

/-- how the iterator keeps where a part has begun -/
def stI (st : Option Nat) : Int := match st with | none => -1 | some a => a
set_option maxRecDepth 100000 in
set_option maxHeartbeats 4000000 in
theorem seq_feeds (X Y : Nat) (r : Value) (p : Nat → Bool) (s : ByteArray) (w : World) (hs : s.size ≤ 1099511627776) (hx : Boxed w X 9 (.string s)) (hy : Boxed w Y 41 (.func (.func 34) #[r] #[])) (hT : Tabs w) (hp : PredB r p w) :
    Feeds 63 #[.pointer (some ⟨X, 0, none⟩), .pointer (some ⟨Y, 0, none⟩)] (fieldsP p s) (fun _ => False) w := by
  intro n l J W hb hJ hY h0
  have hltX := hx.lt
  have hltY := hy.lt
  have HXY := Lib.hid (show ∀ W, Below w.heap.size w W → Boxed W X 9 (.string s) ∧ Boxed W Y 41 (.func (.func 34) #[r] #[]) from fun W h => ⟨(h.block X hltX).trans hx, (h.block Y hltY).trans hy⟩)
  have HGF := Lib.hid (show fieldsP p s = (spans p s.size none (pcs 0 s.data.toList)).map (cut s) from rfl)
  refine callsIn_of_wp Tryd.func63 rfl trivial ?_
  simp only [Tryd.ntmps63, List.size_toArray, List.length_cons, List.length_nil, Nat.reduceAdd, Nat.reduceSub, Array.replicate_succ, Array.replicate_zero, List.push_toArray, List.append_toArray, List.nil_append, List.cons_append]
  have HY := Lib.hid hY; have HJ := Lib.hid hJ; have HB0 := Lib.hid hb; have HT := Lib.hid hT; have HP := Lib.hid hp
  clear hY hJ hb hT hp hx hy
  gi_wp2
  gi_loopw [4, 5] (fun vs vi wr => ∃ (pos : Nat) (st : Option Nat) (done : List (Nat × Nat)), pos ≤ s.size ∧ vi = .int .i64 (pos : Int) ∧ vs = .int .i64 (stI st) ∧ Hid (FfRel p s pos st done) ∧ Hid (J (done.map (cut s)) wr) ∧ Hid (Below w.heap.size w wr)) (fun _ vi _ => s.size - (intOf vi).toNat)
  case atStart => exact ⟨0, none, [], Nat.zero_le _, rfl, rfl, ff_start p s, h0, HB0.out⟩
  case round =>
    clear h0 HB0
    obtain ⟨pos, st, done, hps, rfl, rfl, HR, HJs, HB⟩ := hrel
    obtain ⟨bx, by_⟩ := HXY.out wr HB.out
    have hcx := bx.cell
    by_cases hlt : pos < s.size
    · have hdl := dec_le s pos hlt
      have hR1 := fun h => ff_out_hit (p := p) (done := done) (s := s) (pos := pos) h hlt
      have hR2 := fun h => ff_out_miss (p := p) (done := done) (s := s) (pos := pos) h hlt
      have hR3 := fun a h => ff_in_hit (p := p) (done := done) (s := s) (pos := pos) (a := a) h hlt
      have hR4 := fun a h => ff_in_miss (p := p) (done := done) (s := s) (pos := pos) (a := a) h hlt
      have hR5 := fun a h => ff_told (p := p) (done := done) (s := s) (pos := pos) (a := a) h hlt
      have hrl := Lib.rune_le s pos
      have CD := Tryd.utf8_DecodeRuneInString (s.extract pos s.size) wr (HT.out.below HB.out)
      change Calls Tryd.prog _ _ _ (fun e w' => e = .returned (.tuple #[.int .i32 (Lib.decodeGoB (s.extract pos s.size)).1, .int .i64 (Lib.decodeGoB (s.extract pos s.size)).2]) ∧ _) at CD
      rw [decodeGo_at s pos hlt] at CD
      obtain ⟨R, hR⟩ : ∃ R, (Utf8.decode s pos).1 = R := ⟨_, rfl⟩
      obtain ⟨K, hK⟩ : ∃ K, (Utf8.decode s pos).2 = K := ⟨_, rfl⟩
      rw [hR] at hrl
      rw [hK] at hdl
      rw [hR, hK] at CD
      simp only [hR, hK] at hR1 hR2 hR3 hR4 hR5
      have H1 := Lib.hid hR1; have H2 := Lib.hid hR2; have H3 := Lib.hid hR3; have H4 := Lib.hid hR4; have H5 := Lib.hid hR5
      have HCD := Lib.hid CD
      obtain ⟨hdl1, hdl2⟩ := hdl
      clear hR1 hR2 hR3 hR4 hR5 hR hK CD bx by_
      gi_wp2
      refine ⟨trivial, (fun h => by cases h), ?_⟩
      refine (callsIn_wide.2 HCD.out).mono ?_; rintro e W1 ⟨rfl, hb1⟩
      have HB1 := Lib.hid (HB.out.trans (hb1.mono HB.out.size))
      have HJ1 := Lib.hid (HJ.out.below HJs.out hb1)
      obtain ⟨bx, by_⟩ := HXY.out W1 HB1.out
      have hcy := by_.cell
      clear hcx hb1 HB HJs bx by_
      gi_wp2
      refine ⟨trivial, (fun h => by cases h), ?_⟩
      refine (callsIn_wide.2 (HP.out W1 R hrl HB1.out)).mono ?_; rintro e W2 ⟨rfl, hb2⟩
      have HB2 := Lib.hid (HB1.out.trans (hb2.mono HB1.out.size))
      have HJ2 := Lib.hid (HJ.out.below HJ1.out hb2)
      obtain ⟨bx, by_⟩ := HXY.out W2 HB2.out
      have hcx := bx.cell
      clear hcy hb2 HB1 HJ1 bx by_
      cases hpr : p R with
      | false =>
        have HPR := Lib.hid hpr; clear hpr
        cases st with
        | none =>
          have HN := Lib.hid (H2.out HR.out HPR.out)
          simp only [stI]
          gi_wp2
          exact ⟨⟨pos + K, some pos, done, by omega, by go_num, rfl, HN.out, HJ2.out, HB2.out⟩, by simp [intOf]; omega⟩
        | some a =>
          have HN := Lib.hid (H4.out a HR.out HPR.out)
          simp only [stI]
          gi_wp2
          exact ⟨⟨pos + K, some a, done, by omega, by go_num, rfl, HN.out, HJ2.out, HB2.out⟩, by simp [intOf]; omega⟩
      | true =>
        have HPR := Lib.hid hpr; clear hpr
        cases st with
        | none =>
          have HN := Lib.hid (H1.out HR.out HPR.out)
          simp only [stI]
          gi_wp2
          exact ⟨⟨pos + K, none, done, by omega, by go_num, rfl, HN.out, HJ2.out, HB2.out⟩, by simp [intOf]; omega⟩
        | some a =>
          have HN := Lib.hid (H3.out a HR.out HPR.out)
          have hap : a ≤ pos := HR.out.2.2.1 a rfl
          obtain ⟨rr, hrr⟩ := H5.out a HR.out HPR.out
          obtain ⟨fn, tmps, assign, body, hy, hRd⟩ := HY.out (done.map (cut s)) (s.extract a pos) W2 HJ2.out ⟨rr, hrr.symm⟩
          have HRd := Lib.hid hRd
          clear hRd hrr
          have ha0 : decide (0 ≤ (a : Int)) = true := by simp
          simp only [stI]
          gi_wp2
          refine ⟨(fun h => by cases h), HRd.out.mono ?_⟩
          rintro e W3 ⟨rfl, hJ3, hb3⟩
          have HJ3 := Lib.hid (show J ((done ++ [(a, pos)]).map (cut s)) W3 by rw [List.map_append]; exact hJ3)
          have HB3 := Lib.hid (HB2.out.trans hb3)
          clear hy hJ3 hb3 HRd
          gi_wp2
          exact ⟨⟨pos + K, none, done ++ [(a, pos)], by omega, by go_num, rfl, HN.out, HJ3.out, HB3.out⟩, by simp [intOf]; omega⟩
    · obtain rfl : pos = s.size := by omega
      cases st with
      | none =>
        obtain ⟨he, _, _⟩ := ff_end_none HR.out
        have HE := Lib.hid (show fieldsP p s = done.map (cut s) by rw [HGF.out, he])
        clear he bx by_
        simp only [stI]
        gi_wp2
        go_end0
        exact ⟨⟨_, rfl⟩, by rw [HE.out]; exact HJs.out⟩
      | some a =>
        obtain ⟨he, _, _⟩ := ff_end_some HR.out
        have hap : a ≤ s.size := HR.out.2.2.1 a rfl
        have HE := Lib.hid (show fieldsP p s = done.map (cut s) ++ [s.extract a s.size] by rw [HGF.out, he]; simp [cut])
        obtain ⟨fn, tmps, assign, body, hy, hRd⟩ := HY.out (done.map (cut s)) (s.extract a s.size) wr HJs.out (by rw [HE.out]; exact List.prefix_rfl)
        have HRd := Lib.hid hRd
        clear hRd he bx by_
        have ha0 : decide (0 ≤ (a : Int)) = true := by simp
        simp only [stI]
        gi_wp2
        refine ⟨(fun h => by cases h), HRd.out.mono ?_⟩
        rintro e W3 ⟨rfl, hJ3, hb3⟩
        gi_wp2
        go_end0
        exact ⟨⟨_, rfl⟩, by rw [HE.out]; exact hJ3⟩
set_option maxHeartbeats 1000000 in
theorem lib_FieldsFuncSeq (s : ByteArray) (r : Value) (w : World) : Calls Tryd.prog 46 #[.string s, .func (.func 34) #[r] #[]] w fun e w' => e = .returned (.func (.func 63) #[] #[.pointer (some ⟨w.heap.size, 0, none⟩), .pointer (some ⟨w.heap.size + 1, 0, none⟩)]) ∧ w' = (w.alloc (.cells #[.string s] 9)).alloc (.cells #[.func (.func 34) #[r] #[]] 41) := by
  go_enter Tryd.func46, Tryd.ntmps46
  go_wp2
  go_ret
  exact ⟨rfl, rfl⟩
set_option maxRecDepth 100000 in
set_option maxHeartbeats 1000000 in
theorem impl_FieldsFuncSeq (a : Option Addr) (len cap : Nat) (zs : List Int) (nt : Bool) (s : ByteArray) (w : World) (hs : s.size ≤ 1099511627776) (hT : Tabs w) (hl : Lies w w.heap.size 1 a len (ints zs)) (hlen : len ≤ 70368744177664) :
    Calls Tryd.prog 27 #[.string s, .agg #[.slice a len cap, .bool nt]] w (NewStrs (fieldsP (fun x => holdB zs nt x) s) w) := by
  have hn := fieldsP_len (fun x => holdB zs nt x) s
  obtain ⟨W, hW⟩ : ∃ W, w.alloc (.cells #[.slice a len cap, .bool nt] 24) = W := ⟨_, rfl⟩
  have hb0 : Below w.heap.size w W := by rw [← hW]; exact (Below.refl _ w).alloc (Nat.le_refl _) _
  have hsz : W.heap.size = w.heap.size + 1 := by rw [← hW]; simp
  have hx := heap_alloc_new w (.cells #[.slice a len cap, .bool nt] 24)
  rw [hW] at hx
  obtain ⟨x0, x1⟩ := two_cells hx
  have hb1 : Below W.heap.size W ((W.alloc (.cells #[.string s] 9)).alloc (.cells #[.func (.func 34) #[.agg #[.slice a len cap, .bool nt]] #[]] 41)) := ((Below.refl _ W).alloc (Nat.le_refl _) _).alloc (by simp) _
  have hb01 := hb0.trans (hb1.mono hb0.size)
  have bX := (Boxed.new W 9 (.string s)).alloc (.cells #[.func (.func 34) #[.agg #[.slice a len cap, .bool nt]] #[]] 41)
  have bY := Boxed.new (W.alloc (.cells #[.string s] 9)) 41 (.func (.func 34) #[.agg #[.slice a len cap, .bool nt]] #[])
  rw [World.size_alloc] at bY
  have hfd := seq_feeds W.heap.size (W.heap.size + 1) (.agg #[.slice a len cap, .bool nt]) (fun x => holdB zs nt x) s _ hs bX bY (hT.below hb01) ((pred_test a len cap zs nt w hl hlen).later hb01)
  have CG := Lib.hid (impl_gathered 63 #[.pointer (some ⟨W.heap.size, 0, none⟩), .pointer (some ⟨W.heap.size + 1, 0, none⟩)] (enters_of Tryd.func63 (by kernel_rfl) rfl) (fieldsP (fun x => holdB zs nt x) s) (fun _ => False) W.heap.size _ hfd (fun r h => h.elim) (by simp; omega) (by omega))
  have HB := Lib.hid hb01
  have HB0 := Lib.hid hb0
  have HB1 := Lib.hid hb1
  have hmf : ∀ (fn : Fn) (first cap : Array Value) (w : World), (Instr.makeFunc fn first cap).run Tryd.prog w = .ok (.func fn first cap) w := fun _ _ _ _ => rfl
  clear hfd hb0 hb1 hb01 bX bY hl hT hx hn
  generalize fieldsP (fun x => holdB zs nt x) s = L at *
  go_enter Tryd.func27, Tryd.ntmps27
  go_wp2_with fail
  clear hW x0 x1 hsz
  refine (lib_FieldsFuncSeq s _ W).mono ?_; rintro e w1 ⟨rfl, rfl⟩
  go_wp2_with fail
  refine CG.out.mono ?_; rintro e w2 ⟨g, c, rfl, ho, hb⟩
  go_wp2_with fail
  go_ret
  exact ⟨g, c, rfl, own_base ho HB.out.size, HB.out.trans (hb.mono HB0.out.size)⟩
end Go.Proofs.YteiginpjahmppaaDoor
