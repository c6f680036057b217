/-
  Contracts of the reference's point and pieces. Condition: the text's length is at most 2^40.
-/
import Derived.Test.YtlgibcphfmjddaaDoorMem
import Derived.Test.YtlgibcphfmjddaaDoorUtf
import Derived.Test.YtlgibcphfmjddaaDoorSeq
namespace Go.Proofs.YtlgibcphfmjddaaDoor
open Go.RowKit
set_option linter.unusedVariables false

def bLo : Nat → Int
  | 0 => 0
  | n + 1 => 64 * bLo n - 128
def bHi : Nat → Int
  | 0 => 255
  | n + 1 => 64 * bHi n + 127
theorem bds (j : Nat) (h : j ≤ 2) : -8320 ≤ bLo j ∧ bHi j ≤ 1052735 := by
  obtain rfl | rfl | rfl : j = 0 ∨ j = 1 ∨ j = 2 := by omega
  all_goals simp [bLo, bHi]

/-- where the loop of 'point' stands at place i, x held -/
def PtRel (s : ByteArray) (k n : Nat) (x0 : Int) (i : Nat) (x : Int) : Prop :=
  ptAt s i (k + n - i) x = ptAt s (k + 1) (n - 1) x0 ∧ bLo (i - (k + 1)) ≤ x ∧ x ≤ bHi (i - (k + 1))
theorem pt_bd {s : ByteArray} {k n : Nat} {x0 x : Int} {i : Nat} (h : PtRel s k n x0 i x) (h4 : n ≤ 4) (hi : i < k + n) : -8320 ≤ x ∧ x ≤ 1052735 := by
  have := bds (i - (k + 1)) (by omega)
  obtain ⟨_, h1, h2⟩ := h
  omega
theorem pt_step {s : ByteArray} {k n : Nat} {x0 x : Int} {i : Nat} (h : PtRel s k n x0 i x) (hk1 : k + 1 ≤ i) (hi : i < k + n) (hin : i < s.size) : PtRel s k n x0 (i + 1) (64 * x + (s[i].toNat : Int) - 128) := by
  obtain ⟨h0, h1, h2⟩ := h
  have hb := UInt8.toNat_lt s[i]
  refine ⟨?_, ?_, ?_⟩
  · rw [← h0]
    obtain ⟨m, hm⟩ : ∃ m, k + n - i = m + 1 := ⟨k + n - i - 1, by omega⟩
    rw [hm, show k + n - (i + 1) = m by omega]
    simp only [ptAt]
    rw [gb s i hin]
  · rw [show i + 1 - (k + 1) = i - (k + 1) + 1 by omega]; simp only [bLo]; omega
  · rw [show i + 1 - (k + 1) = i - (k + 1) + 1 by omega]; simp only [bHi]; omega
theorem pt_end {s : ByteArray} {k n : Nat} {x0 x : Int} (h : PtRel s k n x0 (k + n) x) : x = ptAt s (k + 1) (n - 1) x0 := by
  rw [← h.1, show k + n - (k + n) = 0 by omega]; rfl
theorem pt_start (s : ByteArray) (k n : Nat) (x0 : Int) (h1 : 1 ≤ n) (h : 0 ≤ x0 ∧ x0 ≤ 255) : PtRel s k n x0 (k + 1) x0 := by
  refine ⟨by rw [show k + n - (k + 1) = n - 1 by omega], ?_, ?_⟩
  · rw [Nat.sub_self]; exact h.1
  · rw [Nat.sub_self]; exact h.2

set_option maxRecDepth 100000 in
set_option maxHeartbeats 2000000 in
theorem spec_point1 (s : ByteArray) (k : Nat) (hs : s.size ≤ 1099511627776) (hk : k + 1 ≤ s.size) (w : World) :
    Calls Tryd.prog 65 #[.string s, .int .i64 (k : Int), .int .i64 1] w fun e w' => e = .returned (.int .i32 (ptAt s (k + 1) (1 - 1) ((s[k].toNat : Int)))) ∧ w = w' := by
  have hb := UInt8.toNat_lt s[k]
  have hks : k < s.size := by omega
  have HS := Lib.hid (pt_start s k 1 ((s[k].toNat : Int)) (by decide) (by omega))
  go_enter Tryd.func65, Tryd.ntmps65
  go_wp2
  go_loop [7, 8] (fun r vi => ∃ (i : Nat) (x : Int), k + 1 ≤ i ∧ i ≤ k + 1 ∧ r = .int .i32 x ∧ vi = .int .i64 (i : Int) ∧ Hid (PtRel s k 1 ((s[k].toNat : Int)) i x)) (fun _ vi => k + 1 - (intOf vi).toNat)
  case atStart => exact ⟨k + 1, _, Nat.le_refl _, by omega, rfl, by go_num, HS.out⟩
  case round =>
    obtain ⟨i, x, hki, hin, rfl, rfl, HR⟩ := hrel
    clear HS
    by_cases hlt : i < k + 1
    · exact absurd hlt (by omega)
    · obtain rfl : i = k + 1 := by omega
      have HE := Lib.hid (pt_end HR.out)
      clear HR
      go_wp2
      go_ret
      exact ⟨ret_int HE.out, rfl⟩
set_option maxRecDepth 100000 in
set_option maxHeartbeats 2000000 in
theorem spec_point2 (s : ByteArray) (k : Nat) (hs : s.size ≤ 1099511627776) (hk : k + 2 ≤ s.size) (hlo : 192 ≤ s[k].toNat) (w : World) :
    Calls Tryd.prog 65 #[.string s, .int .i64 (k : Int), .int .i64 2] w fun e w' => e = .returned (.int .i32 (ptAt s (k + 1) (2 - 1) ((s[k].toNat : Int) - 192))) ∧ w = w' := by
  have hb := UInt8.toNat_lt s[k]
  have hks : k < s.size := by omega
  have HS := Lib.hid (pt_start s k 2 ((s[k].toNat : Int) - 192) (by decide) (by omega))
  go_enter Tryd.func65, Tryd.ntmps65
  go_wp2
  go_loop [7, 8] (fun r vi => ∃ (i : Nat) (x : Int), k + 1 ≤ i ∧ i ≤ k + 2 ∧ r = .int .i32 x ∧ vi = .int .i64 (i : Int) ∧ Hid (PtRel s k 2 ((s[k].toNat : Int) - 192) i x)) (fun _ vi => k + 2 - (intOf vi).toNat)
  case atStart => exact ⟨k + 1, _, Nat.le_refl _, by omega, rfl, by go_num, HS.out⟩
  case round =>
    obtain ⟨i, x, hki, hin, rfl, rfl, HR⟩ := hrel
    clear HS
    by_cases hlt : i < k + 2
    · have his : i < s.size := by omega
      obtain ⟨hx1, hx2⟩ := pt_bd HR.out (by decide) hlt
      have hbi := UInt8.toNat_lt s[i]
      have HN := Lib.hid (pt_step HR.out hki hlt his)
      go_wp2
      go_round
      case rel => exact ⟨i + 1, _, by omega, by omega, rfl, by go_num, HN.out⟩
      case measure => simp [intOf]; omega
    · obtain rfl : i = k + 2 := by omega
      have HE := Lib.hid (pt_end HR.out)
      clear HR
      go_wp2
      go_ret
      exact ⟨ret_int HE.out, rfl⟩
set_option maxRecDepth 100000 in
set_option maxHeartbeats 2000000 in
theorem spec_point3 (s : ByteArray) (k : Nat) (hs : s.size ≤ 1099511627776) (hk : k + 3 ≤ s.size) (hlo : 224 ≤ s[k].toNat) (w : World) :
    Calls Tryd.prog 65 #[.string s, .int .i64 (k : Int), .int .i64 3] w fun e w' => e = .returned (.int .i32 (ptAt s (k + 1) (3 - 1) ((s[k].toNat : Int) - 224))) ∧ w = w' := by
  have hb := UInt8.toNat_lt s[k]
  have hks : k < s.size := by omega
  have HS := Lib.hid (pt_start s k 3 ((s[k].toNat : Int) - 224) (by decide) (by omega))
  go_enter Tryd.func65, Tryd.ntmps65
  go_wp2
  go_loop [7, 8] (fun r vi => ∃ (i : Nat) (x : Int), k + 1 ≤ i ∧ i ≤ k + 3 ∧ r = .int .i32 x ∧ vi = .int .i64 (i : Int) ∧ Hid (PtRel s k 3 ((s[k].toNat : Int) - 224) i x)) (fun _ vi => k + 3 - (intOf vi).toNat)
  case atStart => exact ⟨k + 1, _, Nat.le_refl _, by omega, rfl, by go_num, HS.out⟩
  case round =>
    obtain ⟨i, x, hki, hin, rfl, rfl, HR⟩ := hrel
    clear HS
    by_cases hlt : i < k + 3
    · have his : i < s.size := by omega
      obtain ⟨hx1, hx2⟩ := pt_bd HR.out (by decide) hlt
      have hbi := UInt8.toNat_lt s[i]
      have HN := Lib.hid (pt_step HR.out hki hlt his)
      go_wp2
      go_round
      case rel => exact ⟨i + 1, _, by omega, by omega, rfl, by go_num, HN.out⟩
      case measure => simp [intOf]; omega
    · obtain rfl : i = k + 3 := by omega
      have HE := Lib.hid (pt_end HR.out)
      clear HR
      go_wp2
      go_ret
      exact ⟨ret_int HE.out, rfl⟩
set_option maxRecDepth 100000 in
set_option maxHeartbeats 2000000 in
theorem spec_point4 (s : ByteArray) (k : Nat) (hs : s.size ≤ 1099511627776) (hk : k + 4 ≤ s.size) (hlo : 240 ≤ s[k].toNat) (w : World) :
    Calls Tryd.prog 65 #[.string s, .int .i64 (k : Int), .int .i64 4] w fun e w' => e = .returned (.int .i32 (ptAt s (k + 1) (4 - 1) ((s[k].toNat : Int) - 240))) ∧ w = w' := by
  have hb := UInt8.toNat_lt s[k]
  have hks : k < s.size := by omega
  have HS := Lib.hid (pt_start s k 4 ((s[k].toNat : Int) - 240) (by decide) (by omega))
  go_enter Tryd.func65, Tryd.ntmps65
  go_wp2
  go_loop [7, 8] (fun r vi => ∃ (i : Nat) (x : Int), k + 1 ≤ i ∧ i ≤ k + 4 ∧ r = .int .i32 x ∧ vi = .int .i64 (i : Int) ∧ Hid (PtRel s k 4 ((s[k].toNat : Int) - 240) i x)) (fun _ vi => k + 4 - (intOf vi).toNat)
  case atStart => exact ⟨k + 1, _, Nat.le_refl _, by omega, rfl, by go_num, HS.out⟩
  case round =>
    obtain ⟨i, x, hki, hin, rfl, rfl, HR⟩ := hrel
    clear HS
    by_cases hlt : i < k + 4
    · have his : i < s.size := by omega
      obtain ⟨hx1, hx2⟩ := pt_bd HR.out (by decide) hlt
      have hbi := UInt8.toNat_lt s[i]
      have HN := Lib.hid (pt_step HR.out hki hlt his)
      go_wp2
      go_round
      case rel => exact ⟨i + 1, _, by omega, by omega, rfl, by go_num, HN.out⟩
      case measure => simp [intOf]; omega
    · obtain rfl : i = k + 4 := by omega
      have HE := Lib.hid (pt_end HR.out)
      clear HR
      go_wp2
      go_ret
      exact ⟨ret_int HE.out, rfl⟩
/-- the code point of a sequence -/
theorem spec_point (s : ByteArray) (k n : Nat) (hs : s.size ≤ 1099511627776) (hk : k < s.size) (hok : okD (Utf8.decode s k) = true) (hn : n = (Utf8.decode s k).2) (w : World) :
    Calls Tryd.prog 65 #[.string s, .int .i64 (k : Int), .int .i64 (n : Int)] w fun e w' => e = .returned (.int .i32 ((Utf8.decode s k).1 : Int)) ∧ w = w' := by
  rcases dec_ok_cases s k hk hok with ⟨h2, h1⟩ | ⟨h2, hz, h1, hl⟩ | ⟨h2, hz, h1, hl⟩ | ⟨h2, hz, h1, hl⟩
  · rw [h2] at hn; subst hn; rw [h1]; exact spec_point1 s k hs (by omega) w
  · rw [h2] at hn; subst hn; rw [h1]; exact spec_point2 s k hs (by omega) hl w
  · rw [h2] at hn; subst hn; rw [h1]; exact spec_point3 s k hs (by omega) hl w
  · rw [h2] at hn; subst hn; rw [h1]; exact spec_point4 s k hs (by omega) hl w

/-- a piece as cells -/
def pcell (p : Pc) : List Value := [.int .i64 (p.at_ : Int), .int .i64 (p.size : Int), .int .i32 (p.r : Int), .bool p.ok]
def pcells (ps : List Pc) : List Value := ps.flatMap pcell
theorem pcells_len (ps : List Pc) : (pcells ps).length = ps.length * 4 := by
  induction ps with
  | nil => rfl
  | cons p ps ih => simp only [pcells, List.flatMap_cons, List.length_append, List.length_cons] at ih ⊢; rw [ih]; simp [pcell]; omega
theorem pcells_snoc (ps : List Pc) (p : Pc) : pcells (ps ++ [p]) = pcells ps ++ pcell p := by simp [pcells]
theorem cells_new (w : World) (cs : List Value) (t : TypeId) : ∀ j u, cs[j]? = some u → (w.alloc (.cells cs.toArray t)).cell? ((⟨w.heap.size, 0, none⟩ : Addr).add j) = some u := by
  intro j u hu
  have ea : (⟨w.heap.size, 0, none⟩ : Addr).add j = ⟨w.heap.size, j, none⟩ := by
    unfold Addr.add; by_cases h : j = 0 <;> simp [h]
  rw [ea, World.cell?_alloc_at _ _ _ _ rfl]
  simpa using hu
theorem Tryd.infoPiece : (Tryd.prog.info? 70).map (fun i => (i.zero, i.size, i.bytes)) = some (some (.agg #[.int .i64 0, .int .i64 0, .int .i32 0, .bool false]), 4, 24) := by kernel_rfl
/-- the result of pieces -/
def PiecesOf (s : ByteArray) (w : World) (e : Ending) (w' : World) : Prop :=
  ∃ a c, e = .returned (.slice a (pcs 0 s.data.toList).length c) ∧ Lies w' w'.heap.size 4 a (pcs 0 s.data.toList).length (pcells (pcs 0 s.data.toList)) ∧ Below w.heap.size w w'
/-- .. and it is a row of the call's own -/
def PiecesOwn (s : ByteArray) (w : World) (e : Ending) (w' : World) : Prop :=
  ∃ a c, e = .returned (.slice a (pcs 0 s.data.toList).length c) ∧ w'.ownsRow w.heap.size 70 4 (.slice a (pcs 0 s.data.toList).length c) (pcs 0 s.data.toList).length (pcells (pcs 0 s.data.toList)) ∧ Below w.heap.size w w'
/-- what has been told when the loop stands at place k -/
def PcRel (s : ByteArray) (k : Nat) (done : List Pc) : Prop := pcs 0 s.data.toList = done ++ pcs k (s.data.toList.drop k) ∧ done.length ≤ k
theorem pc_start (s : ByteArray) : PcRel s 0 [] := ⟨rfl, Nat.le_refl _⟩
theorem pc_step {s : ByteArray} {k : Nat} {done : List Pc} (h : PcRel s k done) (hk : k < s.size) :
    PcRel s (k + (Utf8.decode s k).2) (done ++ [⟨k, (Utf8.decode s k).2, (Utf8.decode s k).1, okD (Utf8.decode s k)⟩]) := by
  have hne : s.data.toList.drop k ≠ [] := by
    intro h0; have := congrArg List.length h0; rw [List.length_drop, len_data] at this; simp at this; omega
  obtain ⟨h1, h2⟩ := h
  have hp := dL_pos (s.data.toList.drop k)
  rw [pcs_cons k _ hne, List.drop_drop] at h1
  rw [decode_drop]
  refine ⟨by rw [h1]; simp, by simp; omega⟩
theorem pc_end {s : ByteArray} {done : List Pc} (h : PcRel s s.size done) : pcs 0 s.data.toList = done := by
  have := h.1; rw [drop_end s _ (Nat.le_refl _), pcs_nil, List.append_nil] at this; exact this
theorem dec_le (s : ByteArray) (k : Nat) (hk : k < s.size) : k + (Utf8.decode s k).2 ≤ s.size ∧ 1 ≤ (Utf8.decode s k).2 := by
  have hne : s.data.toList.drop k ≠ [] := by
    intro h0; have := congrArg List.length h0; rw [List.length_drop, len_data] at this; simp at this; omega
  rw [decode_drop]
  have := dL_le _ hne
  rw [List.length_drop, len_data] at this
  have hp := dL_pos (s.data.toList.drop k)
  omega

set_option maxRecDepth 100000 in
set_option maxHeartbeats 2000000 in
theorem spec_piecesOwn (s : ByteArray) (hs : s.size ≤ 1099511627776) (w : World) : Calls Tryd.prog 47 #[.string s] w (PiecesOwn s w) := by
  obtain ⟨i0, hi, hz0, hz1, hz2⟩ := info_parts Tryd.infoPiece
  go_enter Tryd.func47, Tryd.ntmps47
  go_wp2
  go_loopw [3, 4, 5] (fun v vi _ wr => ∃ (done : List Pc) (k : Nat), k ≤ s.size ∧ vi = .int .i64 (k : Int) ∧ Hid (PcRel s k done) ∧ Hid (wr.ownsRow w.heap.size 70 4 v done.length (pcells done)) ∧ Hid (Below w.heap.size w wr)) (fun _ vi _ _ => s.size - (intOf vi).toNat)
  case atStart => exact ⟨[], 0, Nat.zero_le _, rfl, pc_start s, World.ownsRow_lit w #[] 0 (Nat.le_refl _) (Nat.zero_le _) rfl, (Below.refl _ w).alloc (Nat.le_refl _) _⟩
  case round =>
    obtain ⟨done, k, hk, rfl, HP, HO, HB⟩ := hrel
    by_cases hlt : k < s.size
    · have hdl := dec_le s k hlt
      have HN := Lib.hid (pc_step HP.out hlt)
      have hdone : done.length ≤ s.size := by have := HP.out.2; omega
      have hsz := HB.out.size
      cases hok : okD (Utf8.decode s k)
      · have hbad := dec_bad s k hok
        have HQ := Lib.hid (show seqAt s k = 0 from (seq_bad hbad).symm)
        have HN2 := Lib.hid (show PcRel s (k + 1) (done ++ [⟨k, 1, 65533, false⟩]) by have := HN.out; rw [hok, hbad] at this; exact this)
        clear HN hdl hok hbad
        go_wp2_with (first
          | (go_at_call 64; refine (spec_sequence s k hs hlt _).mono ?_; rintro e w' ⟨rfl, rfl⟩; rw [HQ.out])
          | (at_builtin; refine wpList_append_own _ rfl _ _ 67 rfl w.heap.size 70 i0 _ 4 24 Tryd.underlying67 hi hz0 hz1 hz2 rfl (by decide) _ _ _ rfl (HO.out.alloc _) ⟨wr.heap.size, 0, none⟩ 1 1 [.int .i64 (k : Int), .int .i64 1, .int .i32 65533, .bool false] rfl rfl (cells_new _ [.int .i64 (k : Int), .int .i64 1, .int .i32 65533, .bool false] _) (by simp [Value.oneCell']) (by unfold maxLen; omega) (by omega) (by simp; omega) ?_; intro v' w1 hown1 hgrow1 hnil; clear hnil))
        have hvb : ∀ q, u3.ownBlock = some q → w.heap.size ≤ q := fun q h => (HO.out.lt q h).1
        have hb2 := Lib.hid (HB.out.trans (((Below.refl _ wr).alloc (by omega) _).trans (grown_below hgrow1 (by simp; omega) (fun q h => by have := hvb q h; omega))))
        have ho2 := Lib.hid (show w1.ownsRow w.heap.size 70 4 v' (done ++ [(⟨k, 1, 65533, false⟩ : Pc)]).length (pcells (done ++ [⟨k, 1, 65533, false⟩])) by rw [pcells_snoc, List.length_append]; exact hown1)
        exact ⟨⟨_, k + 1, by omega, by go_num, HN2.out, ho2, hb2⟩, by simp [intOf]; omega⟩
      · obtain ⟨n, hn⟩ : ∃ n, n = (Utf8.decode s k).2 := ⟨_, rfl⟩
        obtain ⟨r, hr⟩ : ∃ r, r = (Utf8.decode s k).1 := ⟨_, rfl⟩
        have HQ := Lib.hid (show seqAt s k = (n : Int) by unfold seqAt; rw [hok, hn]; rfl)
        have HPt := Lib.hid (fun w => spec_point s k n hs hlt hok hn w)
        have HN2 := Lib.hid (show PcRel s (k + n) (done ++ [⟨k, n, r, true⟩]) by have := HN.out; rw [hok, ← hn, ← hr] at this; exact this)
        rw [← hn] at hdl
        have HR := Lib.hid hr
        have hn0 : ((n : Int) == 0) = false := by simp; omega
        obtain ⟨hdl1, hdl2⟩ := hdl
        clear HN hok hn hr
        go_wp2_with (first
          | (go_at_call 64; refine (spec_sequence s k hs hlt _).mono ?_; rintro e w' ⟨rfl, rfl⟩; rw [HQ.out])
          | (go_at_call 65; refine (HPt.out _).mono ?_; rintro e w' ⟨rfl, rfl⟩; rw [← HR.out])
          | (at_builtin; refine wpList_append_own _ rfl _ _ 67 rfl w.heap.size 70 i0 _ 4 24 Tryd.underlying67 hi hz0 hz1 hz2 rfl (by decide) _ _ _ rfl (HO.out.alloc _) ⟨wr.heap.size, 0, none⟩ 1 1 [.int .i64 (k : Int), .int .i64 (n : Int), .int .i32 (r : Int), .bool true] rfl rfl (cells_new _ [.int .i64 (k : Int), .int .i64 (n : Int), .int .i32 (r : Int), .bool true] _) (by simp [Value.oneCell']) (by unfold maxLen; omega) (by omega) (by simp; omega) ?_; intro v' w1 hown1 hgrow1 hnil; clear hnil))
        have hvb : ∀ q, u3.ownBlock = some q → w.heap.size ≤ q := fun q h => (HO.out.lt q h).1
        have hb2 := Lib.hid (HB.out.trans (((Below.refl _ wr).alloc (by omega) _).trans (grown_below hgrow1 (by simp; omega) (fun q h => by have := hvb q h; omega))))
        have ho2 := Lib.hid (show w1.ownsRow w.heap.size 70 4 v' (done ++ [(⟨k, n, r, true⟩ : Pc)]).length (pcells (done ++ [⟨k, n, r, true⟩])) by rw [pcells_snoc, List.length_append]; exact hown1)
        exact ⟨⟨_, k + n, by omega, by go_num, HN2.out, ho2, hb2⟩, by simp [intOf]; omega⟩
    · obtain rfl : k = s.size := by omega
      have he := pc_end HP.out
      have HE := Lib.hid he
      obtain ⟨a, c, hv⟩ := own_slice HO.out
      have HV := Lib.hid hv
      clear he hv
      go_wp2
      go_ret
      refine ⟨a, c, ?_, ?_, HB.out⟩
      · rw [HE.out, ← HV.out]; rfl
      · have := HO.out
        rw [HV.out] at this
        rw [HE.out]
        exact this
theorem spec_pieces (s : ByteArray) (hs : s.size ≤ 1099511627776) (w : World) : Calls Tryd.prog 47 #[.string s] w (PiecesOf s w) :=
  (spec_piecesOwn s hs w).mono fun _ _ ⟨a, c, h1, h2, h3⟩ => ⟨a, c, h1, Lies.of_own h2, h3⟩
end Go.Proofs.YtlgibcphfmjddaaDoor
