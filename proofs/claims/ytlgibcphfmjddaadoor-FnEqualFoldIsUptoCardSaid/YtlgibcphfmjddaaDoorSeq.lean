/-
  Contracts of the reference's sequence. Condition: the text's length is at most 2^40.
-/
import Derived.Test.YtlgibcphfmjddaaDoorMem
import Derived.Test.YtlgibcphfmjddaaDoorUtf
import Derived.Test.YtlgibcphfmjddaaDoorFol
namespace Go.Proofs.YtlgibcphfmjddaaDoor
open Go.RowKit
set_option linter.unusedVariables false

set_option maxRecDepth 100000 in
set_option maxHeartbeats 4000000 in
theorem spec_sequence (s : ByteArray) (k : Nat) (hs : s.size ≤ 1099511627776) (hk : k < s.size) (w : World) :
    Calls Tryd.prog 64 #[.string s, .int .i64 (k : Int)] w fun e w' => e = .returned (.int .i64 (seqAt s k)) ∧ w = w' := by
  have hb := UInt8.toNat_lt s[k]
  rcases Nat.lt_or_ge s[k].toNat 128 with c0 | c0
  · have HE := Lib.hid (seq_ascii s k hk c0)
    as_aux_lemma =>
    go_enter Tryd.func64, Tryd.ntmps64
    go_wp2_with fail
    go_ret
    exact ⟨ret_int HE.out, rfl⟩
  rcases Nat.lt_or_ge s[k].toNat 194 with c1 | c1
  · have HE := Lib.hid (seq_low s k hk c0 c1)
    as_aux_lemma =>
    go_enter Tryd.func64, Tryd.ntmps64
    go_wp2_with fail
    go_ret
    exact ⟨ret_int HE.out, rfl⟩
  rcases Nat.lt_or_ge 223 s[k].toNat with c2 | c2
  · rcases Nat.lt_or_ge 239 s[k].toNat with c3 | c3
    · rcases Nat.lt_or_ge 244 s[k].toNat with c4 | c4
      · have HE := Lib.hid (seq_high s k hk c4)
        as_aux_lemma =>
        go_enter Tryd.func64, Tryd.ntmps64
        go_wp2_with fail
        go_ret
        exact ⟨ret_int HE.out, rfl⟩
      · cases hf : fol s (k + 1) 3
        · have HE := Lib.hid (seq_four_no s k hk c3 c4 hf)
          have HF := Lib.hid hf; clear hf
          as_aux_lemma =>
          go_enter Tryd.func64, Tryd.ntmps64
          go_wp2_with fail
          refine (spec_follows s _ (k + 1) 3 (by omega) hs (by omega) (by omega) (by omega) _).mono ?_; rintro e w' ⟨rfl, rfl⟩; rw [HF.out]
          go_wp2_with fail
          go_ret
          exact ⟨ret_int HE.out, rfl⟩
        · have hE := seq_four s k hk c3 c4 hf
          have hlt := fol3_lt s k hf
          have HE := Lib.hid (show (if (s[k].toNat = 240 ∧ s[k + 1].toNat < 144) ∨ (s[k].toNat = 244 ∧ 143 < s[k + 1].toNat) then (0 : Int) else 4) = seqAt s k from hE)
          clear hE
          have HF := Lib.hid hf; clear hf
          by_cases d : (s[k].toNat = 240 ∧ s[k + 1].toNat < 144) ∨ (s[k].toNat = 244 ∧ 143 < s[k + 1].toNat)
          · have HE2 := Lib.hid ((if_pos d).symm.trans HE.out)
            clear HE
            rcases d with ⟨d1, d2⟩ | ⟨d1, d2⟩
            all_goals
              as_aux_lemma =>
              go_enter Tryd.func64, Tryd.ntmps64
              go_wp2_with fail
              refine (spec_follows s _ (k + 1) 3 (by omega) hs (by omega) (by omega) (by omega) _).mono ?_; rintro e w' ⟨rfl, rfl⟩; rw [HF.out]
              go_wp2_with fail
              go_ret
              exact ⟨ret_int HE2.out, rfl⟩
          · have HE2 := Lib.hid ((if_neg d).symm.trans HE.out)
            clear HE
            by_cases d1 : s[k].toNat = 240
            · have d2 : ¬ s[k + 1].toNat < 144 := by omega
              clear d
              as_aux_lemma =>
              go_enter Tryd.func64, Tryd.ntmps64
              go_wp2_with fail
              refine (spec_follows s _ (k + 1) 3 (by omega) hs (by omega) (by omega) (by omega) _).mono ?_; rintro e w' ⟨rfl, rfl⟩; rw [HF.out]
              go_wp2_with fail
              go_ret
              exact ⟨ret_int HE2.out, rfl⟩
            · by_cases d3 : s[k].toNat = 244
              · have d2 : ¬ 143 < s[k + 1].toNat := by omega
                clear d
                as_aux_lemma =>
                go_enter Tryd.func64, Tryd.ntmps64
                go_wp2_with fail
                refine (spec_follows s _ (k + 1) 3 (by omega) hs (by omega) (by omega) (by omega) _).mono ?_; rintro e w' ⟨rfl, rfl⟩; rw [HF.out]
                go_wp2_with fail
                go_ret
                exact ⟨ret_int HE2.out, rfl⟩
              · clear d
                as_aux_lemma =>
                go_enter Tryd.func64, Tryd.ntmps64
                go_wp2_with fail
                refine (spec_follows s _ (k + 1) 3 (by omega) hs (by omega) (by omega) (by omega) _).mono ?_; rintro e w' ⟨rfl, rfl⟩; rw [HF.out]
                go_wp2_with fail
                go_ret
                exact ⟨ret_int HE2.out, rfl⟩
    · cases hf : fol s (k + 1) 2
      · have HE := Lib.hid (seq_three_no s k hk c2 c3 hf)
        have HF := Lib.hid hf; clear hf
        as_aux_lemma =>
        go_enter Tryd.func64, Tryd.ntmps64
        go_wp2_with fail
        refine (spec_follows s _ (k + 1) 2 (by omega) hs (by omega) (by omega) (by omega) _).mono ?_; rintro e w' ⟨rfl, rfl⟩; rw [HF.out]
        go_wp2_with fail
        go_ret
        exact ⟨ret_int HE.out, rfl⟩
      · have hE := seq_three s k hk c2 c3 hf
        have hlt := fol2_lt s k hf
        have HE := Lib.hid (show (if (s[k].toNat = 224 ∧ s[k + 1].toNat < 160) ∨ (s[k].toNat = 237 ∧ 159 < s[k + 1].toNat) then (0 : Int) else 3) = seqAt s k from hE)
        clear hE
        have HF := Lib.hid hf; clear hf
        by_cases d : (s[k].toNat = 224 ∧ s[k + 1].toNat < 160) ∨ (s[k].toNat = 237 ∧ 159 < s[k + 1].toNat)
        · have HE2 := Lib.hid ((if_pos d).symm.trans HE.out)
          clear HE
          rcases d with ⟨d1, d2⟩ | ⟨d1, d2⟩
          all_goals
            as_aux_lemma =>
            go_enter Tryd.func64, Tryd.ntmps64
            go_wp2_with fail
            refine (spec_follows s _ (k + 1) 2 (by omega) hs (by omega) (by omega) (by omega) _).mono ?_; rintro e w' ⟨rfl, rfl⟩; rw [HF.out]
            go_wp2_with fail
            go_ret
            exact ⟨ret_int HE2.out, rfl⟩
        · have HE2 := Lib.hid ((if_neg d).symm.trans HE.out)
          clear HE
          by_cases d1 : s[k].toNat = 224
          · have d2 : ¬ s[k + 1].toNat < 160 := by omega
            clear d
            as_aux_lemma =>
            go_enter Tryd.func64, Tryd.ntmps64
            go_wp2_with fail
            refine (spec_follows s _ (k + 1) 2 (by omega) hs (by omega) (by omega) (by omega) _).mono ?_; rintro e w' ⟨rfl, rfl⟩; rw [HF.out]
            go_wp2_with fail
            go_ret
            exact ⟨ret_int HE2.out, rfl⟩
          · by_cases d3 : s[k].toNat = 237
            · have d2 : ¬ 159 < s[k + 1].toNat := by omega
              clear d
              as_aux_lemma =>
              go_enter Tryd.func64, Tryd.ntmps64
              go_wp2_with fail
              refine (spec_follows s _ (k + 1) 2 (by omega) hs (by omega) (by omega) (by omega) _).mono ?_; rintro e w' ⟨rfl, rfl⟩; rw [HF.out]
              go_wp2_with fail
              go_ret
              exact ⟨ret_int HE2.out, rfl⟩
            · clear d
              as_aux_lemma =>
              go_enter Tryd.func64, Tryd.ntmps64
              go_wp2_with fail
              refine (spec_follows s _ (k + 1) 2 (by omega) hs (by omega) (by omega) (by omega) _).mono ?_; rintro e w' ⟨rfl, rfl⟩; rw [HF.out]
              go_wp2_with fail
              go_ret
              exact ⟨ret_int HE2.out, rfl⟩
  · have hE := seq_two s k hk c1 c2
    cases hf : fol s (k + 1) 1
    all_goals
      rw [hf] at hE
      have HE := Lib.hid hE
      have HF := Lib.hid hf; clear hf hE
      as_aux_lemma =>
      go_enter Tryd.func64, Tryd.ntmps64
      go_wp2_with fail
      refine (spec_follows s _ (k + 1) 1 (by omega) hs (by omega) (by omega) (by omega) _).mono ?_; rintro e w' ⟨rfl, rfl⟩; rw [HF.out]
      go_wp2_with fail
      go_ret
      exact ⟨ret_int HE.out, rfl⟩

end Go.Proofs.YtlgibcphfmjddaaDoor
