/-
  Contracts of the library's lastIndexFunc, LastIndexFunc, TrimRightFunc, TrimFunc where they are handed a method value of a test, and of the thin package's. Conditions: the tables of unicode/utf8 are as their initialisers lay them; the test's runes lie in memory.
-/
import Derived.Test.YteiginpjahmppaaDoorTest
import Derived.Test.YteiginpjahmppaaDoorTabs
import Derived.Test.YteiginpjahmppaaDoorPl
import Derived.Test.YteiginpjahmppaaDoorShelf
import Derived.Shelf.Unicode.DecodeSlow
namespace Go.Proofs.YteiginpjahmppaaDoor
open Go.RowKit
set_option linter.unusedVariables false

set_option maxRecDepth 100000 in
set_option maxHeartbeats 2000000 in
theorem lib_lastIndexFunc (r : Value) (p : Nat → Bool) (truth : Bool) (s : ByteArray) (w : World) (hs : s.size ≤ 9223372036854775807) (hT : Tabs w) (hp : PredB r p w) :
    Calls Tryd.prog 67 #[.string s, .func (.func 34) #[r] #[], .bool truth] w fun e w' => e = .returned (.int .i64 (Lib.lastIdxFunc p truth s)) ∧ Below w.heap.size w w' := by
  have HT := Lib.hid hT; clear hT
  have HP := Lib.hid hp; clear hp
  go_enter Tryd.func67, Tryd.ntmps67
  go_wp2
  go_loopg [7] s.size (fun gf s7 wx => ∃ i : Nat, s7 = .int .i64 i ∧ i ≤ s.size ∧ Hid (Below w.heap.size w wx) ∧ Hid (Lib.lastIdxFuncFrom p truth s gf i = Lib.lastIdxFunc p truth s) ∧ i ≤ gf)
  case atStart => exact ⟨s.size, rfl, Nat.le_refl _, Below.refl _ _, rfl, Nat.le_refl _⟩
  case round =>
    obtain ⟨i, rfl, hi, HB, HR, hfu⟩ := hrel
    by_cases hpi : 0 < i
    · obtain ⟨g', rfl⟩ : ∃ g', gk = g' + 1 := ⟨gk - 1, by omega⟩
      have hpz : (0 : Int) < (i : Int) := by omega
      have hxd : (s.extract 0 i).data.toList = s.data.toList.take i := by rw [Lib.extract_data]; simp
      have hxs : (s.extract 0 i).size = i := by rw [Lib.size_eq, hxd, List.length_take, ← Lib.size_eq]; omega
      have cL := Tryd.utf8_DecodeLastRuneInString (s.extract 0 i) wr (by omega) (HT.out.below HB.out)
      rw [hxd] at cL
      have hk1 := Lib.decodeLastL_width (s.data.toList.take i) (by rw [List.length_take, ← Lib.size_eq]; omega)
      rw [List.length_take, ← Lib.size_eq, Nat.min_eq_left hi] at hk1
      have hr1 := Lib.decodeLastL_rune (s.data.toList.take i)
      have hright := HR.out
      obtain ⟨R, hR⟩ : ∃ R, (Lib.decodeLastL (s.data.toList.take i)).1 = R := ⟨_, rfl⟩
      obtain ⟨K, hK⟩ : ∃ K, (Lib.decodeLastL (s.data.toList.take i)).2 = K := ⟨_, rfl⟩
      simp only [Lib.lastIdxFuncFrom, hpi, if_true, hR, hK] at hright
      rw [hR, hK] at cL
      rw [hK] at hk1
      rw [hR] at hr1
      obtain ⟨hk1, hk2⟩ := hk1
      have HRI := Lib.hid hright
      have CL := Lib.hid cL
      clear hxd hxs hR hK hright cL
      go_wp2_with fail
      refine CL.out.mono ?_; rintro e W ⟨rfl, hb1⟩
      have HBW := Lib.hid (HB.out.trans (hb1.mono HB.out.size))
      have CS := Lib.hid (HP.out W R hr1 HBW.out)
      clear hb1
      cases hsp : p R <;> cases truth
      · have HF := Lib.hid (show ((i - K : Nat) : Int) = Lib.lastIdxFunc p false s by have := HRI.out; rw [hsp] at this; simpa using this)
        have CS2 := Lib.hid (show Calls Tryd.prog 34 #[r, .int .i32 (R : Int)] W fun e w' => e = .returned (.bool false) ∧ Below W.heap.size W w' by have := CS.out; rw [hsp] at this; exact this)
        clear hsp
        go_wp2_with fail
        refine CS2.out.mono ?_; rintro e W' ⟨rfl, hbc⟩
        go_wp2_with fail
        go_ret
        exact ⟨ret_int (by rw [← HF.out]; omega), HBW.out.trans (hbc.mono HBW.out.size)⟩
      · have HF := Lib.hid (show Lib.lastIdxFuncFrom p true s g' (i - K) = Lib.lastIdxFunc p true s by have := HRI.out; rw [hsp] at this; simpa using this)
        have CS2 := Lib.hid (show Calls Tryd.prog 34 #[r, .int .i32 (R : Int)] W fun e w' => e = .returned (.bool false) ∧ Below W.heap.size W w' by have := CS.out; rw [hsp] at this; exact this)
        clear hsp
        go_wp2_with fail
        refine CS2.out.mono ?_; rintro e W' ⟨rfl, hbc⟩
        go_wp2_with fail
        go_roundg g'
        case measure => omega
        case rel => exact ⟨i - K, by go_num, by omega, HBW.out.trans (hbc.mono HBW.out.size), HF.out, by omega⟩
      · have HF := Lib.hid (show Lib.lastIdxFuncFrom p false s g' (i - K) = Lib.lastIdxFunc p false s by have := HRI.out; rw [hsp] at this; simpa using this)
        have CS2 := Lib.hid (show Calls Tryd.prog 34 #[r, .int .i32 (R : Int)] W fun e w' => e = .returned (.bool true) ∧ Below W.heap.size W w' by have := CS.out; rw [hsp] at this; exact this)
        clear hsp
        go_wp2_with fail
        refine CS2.out.mono ?_; rintro e W' ⟨rfl, hbc⟩
        go_wp2_with fail
        go_roundg g'
        case measure => omega
        case rel => exact ⟨i - K, by go_num, by omega, HBW.out.trans (hbc.mono HBW.out.size), HF.out, by omega⟩
      · have HF := Lib.hid (show ((i - K : Nat) : Int) = Lib.lastIdxFunc p true s by have := HRI.out; rw [hsp] at this; simpa using this)
        have CS2 := Lib.hid (show Calls Tryd.prog 34 #[r, .int .i32 (R : Int)] W fun e w' => e = .returned (.bool true) ∧ Below W.heap.size W w' by have := CS.out; rw [hsp] at this; exact this)
        clear hsp
        go_wp2_with fail
        refine CS2.out.mono ?_; rintro e W' ⟨rfl, hbc⟩
        go_wp2_with fail
        go_ret
        exact ⟨ret_int (by rw [← HF.out]; omega), HBW.out.trans (hbc.mono HBW.out.size)⟩
    · obtain rfl : i = 0 := by omega
      have HE := Lib.hid (show (-1 : Int) = Lib.lastIdxFunc p truth s by rw [← HR.out, Lib.lastIdxFuncFrom_zero])
      go_wp2_with fail
      go_ret
      exact ⟨ret_int HE.out, HB.out⟩
set_option maxHeartbeats 1000000 in
theorem lib_TrimRightFunc (r : Value) (p : Nat → Bool) (s : ByteArray) (w : World) (hs : s.size ≤ 4611686018427387904) (hT : Tabs w) (hp : PredB r p w) :
    Calls Tryd.prog 51 #[.string s, .func (.func 34) #[r] #[]] w fun e w' => e = .returned (.string (trimR p s)) ∧ Below w.heap.size w w' := by
  have hrg := Lib.lastIdxFuncFrom_range p false s s.size s.size
  have hR : Lib.trimRightF p s = trimR p s := trimRight_is p s
  unfold Lib.trimRightF Lib.rightEndF at hR
  obtain ⟨I, hI⟩ : ∃ I, Lib.lastIdxFunc p false s = I := ⟨_, rfl⟩
  rw [show Lib.lastIdxFuncFrom p false s s.size s.size = I from hI] at hrg
  rw [hI] at hR
  have HI := Lib.hid hI
  have HP := Lib.hid hp; have HT := Lib.hid hT; clear hp hT hI
  rcases hrg with rfl | ⟨h0, h1⟩
  · rw [if_neg (by omega)] at hR
    have HR := Lib.hid hR; clear hR
    go_enter Tryd.func51, Tryd.ntmps51
    go_wp2_with fail
    refine (lib_lastIndexFunc r p _ _ _ (by omega) HT.out HP.out).mono ?_; rintro e w' ⟨rfl, hb⟩; rw [HI.out]
    go_wp2_with fail
    go_ret
    exact ⟨ret_str (by rw [← HR.out]; apply ByteArray.ext; simp), hb⟩
  · rw [if_pos h0] at hR
    obtain ⟨i, rfl⟩ := Int.eq_ofNat_of_zero_le h0
    simp only [Int.toNat_natCast] at hR
    have hw1 := Lib.decodeGo_le_size (s.extract i s.size)
    have hxs : (s.extract i s.size).size = s.size - i := by rw [Lib.size_eq, Lib.extract_data, List.length_take, List.length_drop, ← Lib.size_eq]; omega
    rw [hxs] at hw1
    change (Lib.decodeGoB (s.extract i s.size)).2 ≤ _ at hw1
    obtain ⟨K, hK⟩ : ∃ K, (Lib.decodeGoB (s.extract i s.size)).2 = K := ⟨_, rfl⟩
    rw [hK] at hw1 hR
    have hi : i ≤ s.size := by omega
    have HR := Lib.hid hR; have HK := Lib.hid hK
    clear hR hK hxs h0 h1
    go_enter Tryd.func51, Tryd.ntmps51
    go_wp2_with fail
    refine (lib_lastIndexFunc r p _ _ _ (by omega) HT.out HP.out).mono ?_; rintro e W ⟨rfl, hb⟩; rw [HI.out]
    have HB := Lib.hid hb; clear hb
    have CD := Lib.hid (show Calls Tryd.prog 62 #[.string (s.extract i s.size)] W (fun e w' => e = .returned (.tuple #[.int .i32 (Lib.decodeGoB (s.extract i s.size)).1, .int .i64 (K : Int)]) ∧ Below W.heap.size W w') by
      have := Tryd.utf8_DecodeRuneInString (s.extract i s.size) W (HT.out.below HB.out)
      rw [← HK.out]; exact this)
    go_wp2_with fail
    refine CD.out.mono ?_; rintro e W' ⟨rfl, hb2⟩
    go_wp2_with fail
    go_ret
    refine ⟨ret_str ?_, HB.out.trans (hb2.mono HB.out.size)⟩
    rw [← HR.out]
set_option maxHeartbeats 1000000 in
theorem lib_TrimFunc (r : Value) (p : Nat → Bool) (s : ByteArray) (w : World) (hs : s.size ≤ 4611686018427387904) (hT : Tabs w) (hp : PredB r p w) :
    Calls Tryd.prog 35 #[.string s, .func (.func 34) #[r] #[]] w fun e w' => e = .returned (.string (trimR p (trimL p s))) ∧ Below w.heap.size w w' := by
  have hsz := trimLeftF_size p s
  have hR := trimLeft_is p s
  obtain ⟨t, ht⟩ : ∃ t, trimL p s = t := ⟨_, rfl⟩
  rw [ht] at hR ⊢
  rw [hR] at hsz
  have HR := Lib.hid hR
  have HP := Lib.hid hp; have HT := Lib.hid hT; clear hp hT hR ht
  go_enter Tryd.func35, Tryd.ntmps35
  go_wp2_with fail
  refine (lib_TrimLeftFunc r p _ _ HP.out).mono ?_; rintro e W ⟨rfl, hb⟩; rw [HR.out]
  have HB := Lib.hid hb; clear hb
  go_wp2_with fail
  refine (lib_TrimRightFunc r p _ _ (by omega) (HT.out.below HB.out) (HP.out.later HB.out)).mono ?_; rintro e W' ⟨rfl, hb2⟩
  go_wp2_with fail
  go_ret
  exact ⟨rfl, HB.out.trans (hb2.mono HB.out.size)⟩
set_option maxHeartbeats 1000000 in
theorem impl_TrimFunc (a : Option Addr) (len cap : Nat) (zs : List Int) (nt : Bool) (s : ByteArray) (w : World) (hs : s.size ≤ 4611686018427387904) (hT : Tabs w) (hl : Lies w w.heap.size 1 a len (ints zs)) (hlen : len ≤ 70368744177664) :
    Calls Tryd.prog 15 #[.string s, .agg #[.slice a len cap, .bool nt]] w fun e w' => e = .returned (.string (trimR (fun x => holdB zs nt x) (trimL (fun x => holdB zs nt x) s))) ∧ Below w.heap.size w w' := by
  have hb0 : Below w.heap.size w (w.alloc (.cells #[.slice a len cap, .bool nt] 24)) := (Below.refl _ w).alloc (Nat.le_refl _) _
  have HP := Lib.hid ((pred_test a len cap zs nt w hl hlen).later hb0)
  have HT := Lib.hid (hT.below hb0)
  have HB := Lib.hid hb0
  have hmf := make_bound
  clear hl hb0 hT
  go_enter Tryd.func15, Tryd.ntmps15
  go_wp2_with (go_at_call 35; refine (lib_TrimFunc _ _ _ _ hs HT.out HP.out).mono ?_; rintro e w' ⟨rfl, hb⟩)
  go_ret
  exact ⟨rfl, HB.out.trans (hb.mono HB.out.size)⟩
end Go.Proofs.YteiginpjahmppaaDoor
