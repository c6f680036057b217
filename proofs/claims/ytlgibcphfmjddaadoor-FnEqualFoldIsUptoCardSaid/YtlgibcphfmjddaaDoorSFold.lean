/-
  The contract of unicode.SimpleFold. Condition: its tables are in memory.
-/
import Derived.Test.YtlgibcphfmjddaaDoorFoldM
import Derived.WalkSmall
namespace Go.Proofs.YtlgibcphfmjddaaDoor
open Go.Lib Go.RowKit
set_option linter.unusedVariables false

theorem k_small : orbitL.all (fun p => decide (p.1 < 65536)) = true := by kernel_rfl
theorem k_small2 : orbitL.all (fun p => decide (p.2 < 65536)) = true := by kernel_rfl
set_option maxRecDepth 100000 in
set_option maxHeartbeats 2000000 in
theorem unicode_SimpleFold (r : Nat) (hr : r ≤ 1114111) (w : World) (hF : Folds w) :
    Calls Tryd.prog 63 #[.int .i32 (r : Int)] w fun e w' => e = .returned (.int .i32 ((nx r : Nat) : Int)) ∧ Below w.heap.size w w' := by
  have hnx := (turns r).le hr
  by_cases h128 : r < 128
  · have c0 := hF.asc r h128
    clear hF
    generalize nx r = N at *
    go_enter Tryd.func63, Tryd.ntmps63
    go_wp2
    go_ret
    exact ⟨rfl, Below.refl _ _⟩
  · have h128 : 128 ≤ r := by omega
    obtain ⟨Ro, oo, co, ko, kc⟩ := hF.orb
    obtain ⟨R, oR, cap, kv, hT⟩ := hF.cas
    have hol : orbitL.length = 94 := by kernel_rfl
    have KC := Lib.hid kc
    have CT := Lib.hid hT
    have CL := Lib.hid (fun (W : World) (h : CaseTab R oR caseA W) => Tryd.unicode_lookupCaseRange caseA R oR cap (r : Int) W h caseA_ok2.ok (by rw [caseA_size]; omega))
    clear hF kc hT
    obtain ⟨M, hM⟩ : ∃ M, orbitL.length = M := ⟨_, rfl⟩
    rw [hM] at ko hol
    have HM := Lib.hid hM; clear hM
    go_enter Tryd.func63, Tryd.ntmps63
    go_wp2
    go_loop [3, 4] (fun s3 s4 => ∃ lo hi : Nat, s3 = .int .i64 (lo : Int) ∧ s4 = .int .i64 (hi : Int) ∧ lo ≤ hi ∧ hi ≤ M ∧ Hid (∀ j (hj : j < orbitL.length), j < lo → orbitL[j].1 < r) ∧ Hid (∀ j (hj : j < orbitL.length), hi ≤ j → r ≤ orbitL[j].1)) (fun s3 s4 => (intOf s4).toNat - (intOf s3).toNat)
    case atStart => exact ⟨0, M, rfl, by rw [hol]; rfl, Nat.zero_le _, Nat.le_refl _, fun _ _ h => absurd h (by omega), fun j hj h => absurd hj (by rw [HM.out]; omega)⟩
    case round =>
      obtain ⟨lo, hi, rfl, rfl, hlh, hhn, HA, HBB⟩ := hrel
      by_cases hlt : lo < hi
      · have hz : (lo : Int) < (hi : Int) := by omega
        obtain ⟨m, hm⟩ : ∃ m, (lo + hi) / 2 = m := ⟨_, rfl⟩
        have hmr : lo ≤ m ∧ m < hi := by omega
        have hmz : ((lo : Int) + (hi : Int)) / 2 = (m : Int) := by omega
        have hml : m < orbitL.length := by rw [HM.out]; omega
        have c0 := (KC.out m hml).1
        have HS := Lib.hid (fun (i j : Nat) (hi : i < orbitL.length) (hj : j < orbitL.length) (h : i < j) => orb_sorted orbitL k_orbsorted i j hi hj h)
        have HF1 := Lib.hid (show orbitL[m].1 < r → ∀ j (hj : j < orbitL.length), j < m + 1 → orbitL[j].1 < r from fun h j hj hjm => by
          by_cases e : j = m
          · subst e; exact h
          · have := HS.out j m hj hml (by omega); omega)
        have HF2 := Lib.hid (show r ≤ orbitL[m].1 → ∀ j (hj : j < orbitL.length), m ≤ j → r ≤ orbitL[j].1 from fun h j hj hjm => by
          by_cases e : j = m
          · subst e; exact h
          · have := HS.out m j hml hj (by omega); omega)
        have hfr : orbitL[m].1 < 65536 := List.all_eq_true.1 k_small _ (List.getElem_mem hml) |> fun h => by simpa using h
        generalize orbitL[m].1 = F at *
        by_cases hb : F < r
        · go_wp2
          go_round
          case rel => exact ⟨m + 1, hi, by go_num, rfl, by omega, by omega, HF1.out hb, HBB.out⟩
          case measure => simp [intOf]; omega
        · go_wp2
          go_round
          case rel => exact ⟨lo, m, rfl, rfl, by omega, by omega, HA.out, HF2.out (by omega)⟩
          case measure => simp [intOf]; omega
      · obtain rfl : lo = hi := by omega
        have hz : ¬ ((lo : Int) < (lo : Int)) := by omega
        by_cases hend : lo < M
        · have hll : lo < orbitL.length := by rw [HM.out]; exact hend
          obtain ⟨c0, c1⟩ := KC.out lo hll
          have hge := HBB.out lo hll (Nat.le_refl _)
          have hfr : orbitL[lo].1 < 65536 := List.all_eq_true.1 k_small _ (List.getElem_mem hll) |> fun h => by simpa using h
          have hft : orbitL[lo].2 < 65536 := List.all_eq_true.1 k_small2 _ (List.getElem_mem hll) |> fun h => by simpa using h
          by_cases he : orbitL[lo].1 = r
          · have HN := Lib.hid (show nx r = orbitL[lo].2 from orb_hit (by rw [← he]; exact List.getElem_mem hll))
            rw [he] at c0
            generalize orbitL[lo].2 = N at *
            clear hfr he hge
            go_wp2
            go_ret
            exact ⟨ret_int (by rw [HN.out]), Below.refl _ _⟩
          · have ho : orbC r = false := orb_none (k := lo) HA.out (fun hk => by omega)
            generalize orbitL[lo].1 = F at *
            have hne : ((F : Int) == (r : Int)) = false := beq_eq_false_iff_ne.2 (by omega)
            clear c1 hft
            have HO := Lib.hid ho
            clear ho
            go_wp2_with fail
            cases hli : lookupIdx caseA (r : Int) (caseA.size + 1) 0 caseA.size with
            | none =>
              have HM := Lib.hid (row_miss h128 HO.out hli)
              refine (CL.out _ CT.out).mono ?_; rintro e w1 ⟨rfl, rfl⟩
              rw [hli]
              clear hli
              go_wp2_with fail
              go_ret
              exact ⟨ret_int (by rw [HM.out]), Below.refl _ _⟩
            | some i =>
              have hrow := row_hit h128 HO.out hli
              obtain ⟨h1, h2, h3⟩ := lookupIdx_some caseA _ _ _ _ i hli
              have hfit := caseA_row i h1
              obtain ⟨c0, c1, c2, c3, c4⟩ := CT.out i h1
              have hH := (caseA_ok2 i h1).2
              refine (CL.out _ CT.out).mono ?_; rintro e w1 ⟨rfl, rfl⟩
              rw [hli]
              clear hli CL CT h1
              generalize caseA.getD i (0, 0, 0, 0, 0) = x at *
              have C1 := Lib.hid (fun (q : Nat) => Tryd.unicode_convertCase 1 (by omega) (r : Int) R (oR + i * 5) x (w1.drewN q) h2 h3 hH c0 c3)
              have C0 := Lib.hid (fun (q : Nat) => Tryd.unicode_convertCase 0 (by omega) (r : Int) R (oR + i * 5) x (w1.drewN q) h2 h3 hH c0 c2)
              rw [convert_fits x hfit 1 (by omega) _ h2 h3] at C1
              rw [convert_fits x hfit 0 (by omega) _ h2 h3] at C0
              unfold sfRow at hrow
              generalize convertR 1 (r : Int) x = L1 at *
              generalize convertR 0 (r : Int) x = L0 at *
              clear c0 c1 c2 c3 c4 h2 h3 hfit hH
              by_cases hL : L1 = (r : Int)
              · rw [if_pos hL] at hrow
                subst hL
                have HR := Lib.hid hrow; clear hrow
                go_wp2_with fail
                refine (C1.out 0).mono ?_; rintro e w2 ⟨rfl, q, rfl⟩
                go_wp2_with fail
                refine (C0.out q).mono ?_; rintro e w3 ⟨rfl, q', rfl⟩
                go_wp2_with fail
                go_ret
                exact ⟨ret_int HR.out.symm, ⟨rfl, rfl, rfl, Nat.le_refl _, fun _ _ => rfl⟩⟩
              · rw [if_neg hL] at hrow
                have HR := Lib.hid hrow; clear hrow
                have hne : (L1 == (r : Int)) = false := beq_eq_false_iff_ne.2 hL
                go_wp2_with fail
                refine (C1.out 0).mono ?_; rintro e w2 ⟨rfl, q, rfl⟩
                go_wp2_with fail
                go_ret
                exact ⟨ret_int HR.out.symm, ⟨rfl, rfl, rfl, Nat.le_refl _, fun _ _ => rfl⟩⟩
        · have ho : orbC r = false := orb_none (k := lo) HA.out (fun hk => by rw [HM.out] at hk; omega)
          obtain rfl : lo = M := by omega
          have HO := Lib.hid ho
          clear ho
          go_wp2_with fail
          cases hli : lookupIdx caseA (r : Int) (caseA.size + 1) 0 caseA.size with
          | none =>
            have HM := Lib.hid (row_miss h128 HO.out hli)
            refine (CL.out _ CT.out).mono ?_; rintro e w1 ⟨rfl, rfl⟩
            rw [hli]
            clear hli
            go_wp2_with fail
            go_ret
            exact ⟨ret_int (by rw [HM.out]), Below.refl _ _⟩
          | some i =>
            have hrow := row_hit h128 HO.out hli
            obtain ⟨h1, h2, h3⟩ := lookupIdx_some caseA _ _ _ _ i hli
            have hfit := caseA_row i h1
            obtain ⟨c0, c1, c2, c3, c4⟩ := CT.out i h1
            have hH := (caseA_ok2 i h1).2
            refine (CL.out _ CT.out).mono ?_; rintro e w1 ⟨rfl, rfl⟩
            rw [hli]
            clear hli CL CT h1
            generalize caseA.getD i (0, 0, 0, 0, 0) = x at *
            have C1 := Lib.hid (fun (q : Nat) => Tryd.unicode_convertCase 1 (by omega) (r : Int) R (oR + i * 5) x (w1.drewN q) h2 h3 hH c0 c3)
            have C0 := Lib.hid (fun (q : Nat) => Tryd.unicode_convertCase 0 (by omega) (r : Int) R (oR + i * 5) x (w1.drewN q) h2 h3 hH c0 c2)
            rw [convert_fits x hfit 1 (by omega) _ h2 h3] at C1
            rw [convert_fits x hfit 0 (by omega) _ h2 h3] at C0
            unfold sfRow at hrow
            generalize convertR 1 (r : Int) x = L1 at *
            generalize convertR 0 (r : Int) x = L0 at *
            clear c0 c1 c2 c3 c4 h2 h3 hfit hH
            by_cases hL : L1 = (r : Int)
            · rw [if_pos hL] at hrow
              subst hL
              have HR := Lib.hid hrow; clear hrow
              go_wp2_with fail
              refine (C1.out 0).mono ?_; rintro e w2 ⟨rfl, q, rfl⟩
              go_wp2_with fail
              refine (C0.out q).mono ?_; rintro e w3 ⟨rfl, q', rfl⟩
              go_wp2_with fail
              go_ret
              exact ⟨ret_int HR.out.symm, ⟨rfl, rfl, rfl, Nat.le_refl _, fun _ _ => rfl⟩⟩
            · rw [if_neg hL] at hrow
              have HR := Lib.hid hrow; clear hrow
              have hne : (L1 == (r : Int)) = false := beq_eq_false_iff_ne.2 hL
              go_wp2_with fail
              refine (C1.out 0).mono ?_; rintro e w2 ⟨rfl, q, rfl⟩
              go_wp2_with fail
              go_ret
              exact ⟨ret_int HR.out.symm, ⟨rfl, rfl, rfl, Nat.le_refl _, fun _ _ => rfl⟩⟩
end Go.Proofs.YtlgibcphfmjddaaDoor
