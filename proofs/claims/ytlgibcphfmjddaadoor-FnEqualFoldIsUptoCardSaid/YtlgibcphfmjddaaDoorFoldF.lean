/-
  Plain facts on unicode.SimpleFold, most of them looked up by the kernel in its tables: it turns in circles of at most four, upwards and back to the least; what is in one circle is alike. No condition.
-/
import Derived.Test.YtlgibcphfmjddaaDoorFoldT
import Derived.Shelf.Unicode.CaseLaid
namespace Go.Proofs.YtlgibcphfmjddaaDoor
open Go.Lib
set_option linter.unusedVariables false
set_option maxRecDepth 100000

theorem blt_no {a b : Nat} (h : Nat.blt a b = false) : b ≤ a :=
  Nat.le_of_not_lt fun h' => by rw [Eq.mpr (@Nat.blt_eq a b) h'] at h; cases h
theorem blt_yes {a b : Nat} (h : Nat.blt a b = true) : a < b := Eq.mp (@Nat.blt_eq a b) h
theorem FT.get_all (p : Nat → Nat → Bool) (x d : Nat) : ∀ t : FT, t.all p = true → t.get x d = d ∨ p x (t.get x d) = true
  | .e, _ => .inl rfl
  | .n l k v r, h => by
    have h' : (l.all p && (p k v && r.all p)) = true := h
    simp only [Bool.and_eq_true] at h'
    show cond (Nat.blt x k) (l.get x d) (cond (Nat.blt k x) (r.get x d) v) = d ∨ p x (cond (Nat.blt x k) (l.get x d) (cond (Nat.blt k x) (r.get x d) v)) = true
    cases h1 : Nat.blt x k
    · cases h2 : Nat.blt k x
      · have e : x = k := by
          have a1 := blt_no h1
          have a2 := blt_no h2
          omega
        subst e
        exact .inr h'.2.1
      · exact FT.get_all p x d r h'.2.2
    · exact FT.get_all p x d l h'.1
theorem FT.within_all (p : Nat → Nat → Bool) (x : Nat) : ∀ t : FT, t.all p = true → t.within x = true → ∃ lo hi, p lo hi = true ∧ lo ≤ x ∧ x ≤ hi
  | .e, _, h => by cases h
  | .n l k v r, h, hw => by
    have h' : (l.all p && (p k v && r.all p)) = true := h
    simp only [Bool.and_eq_true] at h'
    have hw' : cond (Nat.blt x k) (l.within x) (cond (Nat.blt v x) (r.within x) true) = true := hw
    cases h1 : Nat.blt x k
    · rw [h1] at hw'
      cases h2 : Nat.blt v x
      · exact ⟨k, v, h'.2.1, blt_no h1, blt_no h2⟩
      · rw [h2] at hw'; exact FT.within_all p x r h'.2.2 hw'
    · rw [h1] at hw'; exact FT.within_all p x l h'.1 hw'

noncomputable def goodB (k v : Nat) : Bool :=
  and (or (Nat.beq (nx v) k) (or (Nat.beq (nx (nx v)) k) (Nat.beq (nx (nx (nx v))) k)))
    (and (or (Nat.ble (nx v) k) (Nat.ble v (nx v))) (and (or (Nat.ble (nx (nx v)) k) (Nat.ble v (nx (nx v)))) (Nat.ble v 1114111)))
theorem k_good : foldTree.all goodB = true := by kernel_rfl
theorem k_ascii : asciiL = (List.range 128).map (fun r => ((nx r : Nat) : Int)) := by kernel_rfl
theorem k_orbit : orbitL.all (fun p => Nat.beq (nx p.1) p.2) = true := by kernel_rfl
def orbC (r : Nat) : Bool := orbitL.any (fun p => Nat.beq p.1 r)
def sfRow (x : CaseRow) (r : Int) : Int := if convertR 1 r x = r then convertR 0 r x else convertR 1 r x
noncomputable def rowOk (x : CaseRow) : Bool := (List.range (x.2.1 - x.1 + 1)).all (fun i => or (decide (((nx (x.1 + i) : Nat) : Int) = sfRow x ((x.1 + i : Nat) : Int))) (or (Nat.blt (x.1 + i) 128) (orbC (x.1 + i))))
theorem k_rows : caseT.all rowOk = true := by kernel_rfl
theorem k_keys : foldTree.all (fun k _ => or (Nat.blt k 128) (or (rowTree.within k) (orbC k))) = true := by kernel_rfl
theorem k_ranges : rowTree.all (fun lo hi => caseT.any (fun x => and (Nat.beq x.1 lo) (Nat.beq x.2.1 hi))) = true := by kernel_rfl
def pw : List CaseRow → Bool
  | [] => true
  | x :: l => and (and (Nat.ble x.1 x.2.1) (l.all (fun y => Nat.blt x.2.1 y.1))) (pw l)
theorem k_sorted : pw caseT = true := by kernel_rfl
def pwO : List (Nat × Nat) → Bool
  | [] => true
  | x :: l => and (l.all (fun y => Nat.blt x.1 y.1)) (pwO l)
theorem k_orbsorted : pwO orbitL = true := by kernel_rfl
noncomputable def asc1 (lo a : Nat) : Bool := or (Nat.ble a lo) (or (Nat.ble 128 a) (and (and (Nat.ble 65 lo) (Nat.ble lo 90)) (Nat.beq a (lo + 32))))
theorem k_asc : (List.range 128).all (fun lo => and (asc1 lo (nx lo)) (and (asc1 lo (nx (nx lo))) (asc1 lo (nx (nx (nx lo)))))) = true := by kernel_rfl
theorem k_let : (List.range 26).all (fun i => Nat.beq (nx (65 + i)) (97 + i)) = true := by kernel_rfl
/-! ## circles -/
theorem nx_or (p : Nat → Nat → Bool) (h : foldTree.all p = true) (r : Nat) : nx r = r ∨ p r (nx r) = true := FT.get_all p r r foldTree h
structure Turns (r : Nat) : Prop where
  back : nx r = r ∨ nx (nx r) = r ∨ nx (nx (nx r)) = r ∨ nx (nx (nx (nx r))) = r
  two : r < nx (nx r) → nx r ≤ nx (nx r)
  three : r < nx (nx (nx r)) → nx r ≤ nx (nx (nx r))
  le : r ≤ 1114111 → nx r ≤ 1114111
theorem turns (r : Nat) : Turns r := by
  rcases nx_or goodB k_good r with h | h
  · refine ⟨.inl h, ?_, ?_, ?_⟩ <;> simp only [h] <;> omega
  · simp only [goodB, Bool.and_eq_true, Bool.or_eq_true, Nat.beq_eq, Nat.ble_eq] at h
    exact ⟨by omega, by omega, by omega, by omega⟩
/-- so many turns on -/
def itr : Nat → Nat → Nat → Prop
  | 0, a, b => a = b
  | n + 1, a, b => itr n (nx a) b
noncomputable def it : Nat → Nat → Nat
  | 0, a => a
  | n + 1, a => it n (nx a)
theorem it_add : ∀ (m n a : Nat), it (m + n) a = it n (it m a)
  | 0, n, a => by rw [Nat.zero_add]; rfl
  | m + 1, n, a => by rw [Nat.succ_add]; exact it_add m n (nx a)
theorem it_back (a : Nat) : ∃ n, 0 < n ∧ n ≤ 4 ∧ it n a = a := by
  rcases (turns a).back with h | h | h | h
  · exact ⟨1, by omega, by omega, h⟩
  · exact ⟨2, by omega, by omega, h⟩
  · exact ⟨3, by omega, by omega, h⟩
  · exact ⟨4, by omega, by omega, h⟩
theorem it_mul {n a : Nat} (h : it n a = a) : ∀ k, it (n * k) a = a
  | 0 => rfl
  | k + 1 => by rw [Nat.mul_succ, it_add, it_mul h k, h]
/-- two code points are in one circle -/
def Alike (a b : Nat) : Prop := ∃ n, it n a = b
theorem Alike.refl (a : Nat) : Alike a a := ⟨0, rfl⟩
theorem Alike.symm {a b : Nat} (h : Alike a b) : Alike b a := by
  obtain ⟨i, rfl⟩ := h
  obtain ⟨n, h0, _, hn⟩ := it_back a
  refine ⟨n * (i + 1) - i, ?_⟩
  have hle : i ≤ n * (i + 1) := Nat.le_trans (by omega : i ≤ 1 * (i + 1)) (Nat.mul_le_mul_right _ h0)
  rw [← it_add, show i + (n * (i + 1) - i) = n * (i + 1) by omega]
  exact it_mul hn _
theorem Alike.trans {a b c : Nat} (h : Alike a b) (k : Alike b c) : Alike a c := by
  obtain ⟨i, rfl⟩ := h
  obtain ⟨j, rfl⟩ := k
  exact ⟨i + j, it_add i j a⟩
theorem Alike.few {a b : Nat} (h : Alike a b) : b = a ∨ b = nx a ∨ b = nx (nx a) ∨ b = nx (nx (nx a)) := by
  obtain ⟨i, rfl⟩ := h
  obtain ⟨n, h0, h4, hn⟩ := it_back a
  have e : it i a = it (i % n) a := by
    have := it_add (n * (i / n)) (i % n) a
    rw [Nat.div_add_mod, it_mul hn] at this
    exact this
  rw [e]
  have hlt : i % n < n := Nat.mod_lt _ h0
  have : i % n = 0 ∨ i % n = 1 ∨ i % n = 2 ∨ i % n = 3 := by omega
  rcases this with h | h | h | h <;> rw [h]
  · exact .inl rfl
  · exact .inr (.inl rfl)
  · exact .inr (.inr (.inl rfl))
  · exact .inr (.inr (.inr rfl))
noncomputable def eqR (a b : Nat) : Bool := or (Nat.beq b a) (or (Nat.beq b (nx a)) (or (Nat.beq b (nx (nx a))) (Nat.beq b (nx (nx (nx a))))))
theorem eqR_iff {a b : Nat} : eqR a b = true ↔ Alike a b := by
  unfold eqR
  simp only [Bool.or_eq_true, Nat.beq_eq]
  constructor
  · rintro (h | h | h | h)
    · exact ⟨0, h.symm⟩
    · exact ⟨1, h.symm⟩
    · exact ⟨2, h.symm⟩
    · exact ⟨3, h.symm⟩
  · exact Alike.few
theorem eqR_refl (a : Nat) : eqR a a = true := eqR_iff.2 (Alike.refl a)
theorem eqR_symm (a b : Nat) : eqR a b = eqR b a := Bool.eq_iff_iff.2 ⟨fun h => eqR_iff.2 (eqR_iff.1 h).symm, fun h => eqR_iff.2 (eqR_iff.1 h).symm⟩
/-- what the library's loop asks: a step that goes beyond b has missed it -/
theorem step_past {a b : Nat} (h : Alike a b) (hlt : a < b) : nx a ≤ b := by
  have ht := turns a
  rcases h.few with h | h | h | h
  · omega
  · omega
  · subst h; exact ht.two hlt
  · subst h; exact ht.three hlt
theorem asc_alike {lo hi : Nat} (h : lo < hi) (h2 : hi < 128) : eqR lo hi = (decide (65 ≤ lo) && decide (lo ≤ 90) && decide (hi = lo + 32)) := by
  have hk := List.all_eq_true.1 k_asc lo (List.mem_range.2 (by omega))
  simp only [asc1, Bool.and_eq_true, Bool.or_eq_true, Nat.ble_eq, Nat.beq_eq] at hk
  rw [Bool.eq_iff_iff, eqR_iff]
  simp only [Bool.and_eq_true, decide_eq_true_eq]
  constructor
  · intro ha
    rcases ha.few with e | e | e | e <;> omega
  · rintro ⟨⟨h3, h4⟩, h5⟩
    have := List.all_eq_true.1 k_let (lo - 65) (List.mem_range.2 (by omega))
    rw [Nat.beq_eq, show 65 + (lo - 65) = lo by omega] at this
    exact ⟨1, by show nx lo = hi; omega⟩
/-! ## what the tables say -/
theorem pw_get : ∀ (l : List CaseRow), pw l = true → ∀ (i : Nat) (hi : i < l.length), l[i].1 ≤ l[i].2.1 ∧ ∀ (j : Nat) (hj : j < l.length), i < j → l[i].2.1 < l[j].1
  | [], _, i, hi => by simp at hi
  | x :: l, h, i, hi => by
    unfold pw at h
    simp only [Bool.and_eq_true, Nat.ble_eq] at h
    cases i with
    | zero =>
      refine ⟨h.1.1, fun j hj hij => ?_⟩
      obtain ⟨j, rfl⟩ : ∃ k, j = k + 1 := ⟨j - 1, by omega⟩
      exact blt_yes (List.all_eq_true.1 h.1.2 _ (List.getElem_mem (by simpa using hj)))
    | succ i =>
      have := pw_get l h.2 i (by simpa using hi)
      refine ⟨this.1, fun j hj hij => ?_⟩
      obtain ⟨j, rfl⟩ : ∃ k, j = k + 1 := ⟨j - 1, by omega⟩
      exact this.2 j (by simpa using hj) (by omega)
theorem caseA_get (i : Nat) (hi : i < caseA.size) : caseA.getD i (0, 0, 0, 0, 0) = caseT[i]'(by simpa [caseA] using hi) := by
  unfold caseA at hi ⊢
  simp only [List.size_toArray] at hi
  simp [Array.getD, hi]
theorem look_none (r : Int) : ∀ (f lo hi : Nat), hi ≤ caseA.size → hi - lo < f → lookupIdx caseA r f lo hi = none → ∀ i, lo ≤ i → i < hi → ¬ (((caseA.getD i (0, 0, 0, 0, 0)).1 : Int) ≤ r ∧ r ≤ ((caseA.getD i (0, 0, 0, 0, 0)).2.1 : Int))
  | 0, lo, hi, _, hf, _ => by omega
  | f + 1, lo, hi, hs, hf, h => by
    intro i h1 h2 hc
    unfold lookupIdx at h
    rw [if_pos (by omega)] at h
    obtain ⟨m, hm⟩ : ∃ m, (lo + hi) / 2 = m := ⟨_, rfl⟩
    rw [hm] at h
    have hml : m < caseA.size := by omega
    have hil : i < caseA.size := by omega
    have em := caseA_get m hml
    have ei := caseA_get i hil
    have hsz : caseA.size = caseT.length := by simp [caseA]
    have pm := pw_get caseT k_sorted m (by omega)
    have pi := pw_get caseT k_sorted i (by omega)
    rw [ei] at hc
    rw [em] at h
    split at h
    · cases h
    · rename_i hnc
      split at h
      · rename_i hlt
        by_cases him : i < m
        · have := look_none r f lo m (by omega) (by omega) h i h1 him
          rw [ei] at this
          exact this hc
        · by_cases e : i = m
          · subst e; exact hnc hc
          · have := pm.2 i (by omega) (by omega)
            have := pm.1
            omega
      · rename_i hge
        by_cases him : m < i
        · have := look_none r f (m + 1) hi (by omega) (by omega) h i (by omega) h2
          rw [ei] at this
          exact this hc
        · by_cases e : i = m
          · subst e; exact hnc hc
          · have := pi.2 m (by omega) (by omega)
            omega
theorem orb_hit {r t : Nat} (h : (r, t) ∈ orbitL) : nx r = t := by
  have := List.all_eq_true.1 k_orbit _ h
  exact Nat.eq_of_beq_eq_true this
theorem row_hit {r i : Nat} (h128 : 128 ≤ r) (ho : orbC r = false) (h : lookupIdx caseA (r : Int) (caseA.size + 1) 0 caseA.size = some i) : ((nx r : Nat) : Int) = sfRow (caseA.getD i (0, 0, 0, 0, 0)) (r : Int) := by
  obtain ⟨h1, h2, h3⟩ := lookupIdx_some caseA _ _ _ _ i h
  have hm : caseA.getD i (0, 0, 0, 0, 0) ∈ caseT := by rw [caseA_get i h1]; exact List.getElem_mem _
  generalize caseA.getD i (0, 0, 0, 0, 0) = x at *
  have := List.all_eq_true.1 k_rows x hm
  unfold rowOk at this
  have := List.all_eq_true.1 this (r - x.1) (List.mem_range.2 (by omega))
  rw [show x.1 + (r - x.1) = r by omega] at this
  simp only [Bool.or_eq_true, decide_eq_true_eq] at this
  rcases this with h | h | h
  · exact h
  · have := blt_yes h; omega
  · rw [ho] at h; cases h
theorem row_miss {r : Nat} (h128 : 128 ≤ r) (ho : orbC r = false) (h : lookupIdx caseA (r : Int) (caseA.size + 1) 0 caseA.size = none) : nx r = r := by
  rcases nx_or _ k_keys r with h1 | h1
  · exact h1
  · exfalso
    simp only [Bool.or_eq_true] at h1
    rcases h1 with h1 | h1 | h1
    · have := blt_yes h1; omega
    · obtain ⟨lo, hi, hp, hl, hh⟩ := FT.within_all _ r rowTree k_ranges h1
      obtain ⟨x, hx, he⟩ := List.any_eq_true.1 hp
      simp only [Bool.and_eq_true, Nat.beq_eq] at he
      obtain ⟨i, hi', rfl⟩ := List.mem_iff_getElem.1 hx
      have hsz : caseA.size = caseT.length := by simp [caseA]
      have := look_none (r : Int) (caseA.size + 1) 0 caseA.size (Nat.le_refl _) (by omega) h i (Nat.zero_le _) (by omega)
      rw [caseA_get i (by omega)] at this
      exact this ⟨by omega, by omega⟩
    · rw [ho] at h1; cases h1
theorem asc_hit {r : Nat} (h : r < 128) : asciiL[r]? = some ((nx r : Nat) : Int) := by
  rw [k_ascii]; simp [h]
theorem orb_sorted : ∀ (l : List (Nat × Nat)), pwO l = true → ∀ (i j : Nat) (hi : i < l.length) (hj : j < l.length), i < j → l[i].1 < l[j].1
  | [], _, i, j, hi, _, _ => by simp at hi
  | x :: l, h, i, j, hi, hj, hij => by
    unfold pwO at h
    simp only [Bool.and_eq_true] at h
    obtain ⟨j, rfl⟩ : ∃ k, j = k + 1 := ⟨j - 1, by omega⟩
    cases i with
    | zero => exact blt_yes (List.all_eq_true.1 h.1 _ (List.getElem_mem (by simpa using hj)))
    | succ i => exact orb_sorted l h.2 i j (by simpa using hi) (by simpa using hj) (by omega)
theorem orb_none {r k : Nat} (h1 : ∀ j (hj : j < orbitL.length), j < k → orbitL[j].1 < r) (h2 : ∀ (hk : k < orbitL.length), r < orbitL[k].1) : orbC r = false := by
  unfold orbC
  rw [List.any_eq_false]
  intro p hp
  obtain ⟨j, hj, rfl⟩ := List.mem_iff_getElem.1 hp
  rw [Nat.beq_eq]
  intro e
  rcases Nat.lt_trichotomy j k with h | h | h
  · have := h1 j hj h; omega
  · subst h; have := h2 hj; omega
  · have := h2 (by omega)
    have := orb_sorted orbitL k_orbsorted k j (by omega) hj h
    omega
end Go.Proofs.YtlgibcphfmjddaaDoor
