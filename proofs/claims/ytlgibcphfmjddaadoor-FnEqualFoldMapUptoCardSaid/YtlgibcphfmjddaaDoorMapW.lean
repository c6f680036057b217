/-
  Plain laws: mapped twice is mapped by both at once. The contract of laws.scalar. No condition.
-/
import Derived.Test.YtlgibcphfmjddaaDoorMapC
namespace Go.Proofs.YtlgibcphfmjddaaDoor
open Go.RowKit
set_option linter.unusedVariables false

/-- a number that has a sequence -/
def scB (x : Int) : Bool := decide (0 ≤ x) && decide (x ≤ 1114111) && (decide (x < 55296) || decide (57343 < x))
theorem sc_of {x : Int} (h : scB x = true) : (sc x : Int) = x := by
  simp [scB] at h
  unfold sc
  rw [if_pos (by omega)]; omega
theorem ch_sc {l : List UInt8} {c : Ch} (hc : c ∈ chs l) : sc (c.1 : Int) = c.1 := by
  have h1 := chs_mem hc
  by_cases ho : okC c = true
  · have h2 := map_self c.2 (by rw [h1]; simp [ho])
    have h3 := map_chs (fun x => x) c.2
    rw [h2, h1] at h3
    have h4 : c = encC (c.1 : Int) := by
      unfold mapCh at h3
      rw [List.flatMap_cons, if_pos (show 0 ≤ (fun x : Int => x) (c.1 : Int) from Int.natCast_nonneg _)] at h3
      simpa using h3
    have h5 : (encC (c.1 : Int)).1 = c.1 := congrArg Prod.fst h4.symm
    simp only [encC] at h5
    exact h5
  · have : c.1 = 65533 := by
      simp [okC, okD] at ho
      omega
    rw [this]; rfl
def thenF (f g : Int → Int) (x : Int) : Int := if 0 ≤ f x then g (f x) else f x
theorem map_twice (f g h : Int → Int) (l : List UInt8) (hf : ∀ c ∈ chs l, 0 ≤ f (c.1 : Int) → (sc (f (c.1 : Int)) : Int) = f (c.1 : Int)) (hh : ∀ c ∈ chs l, h (c.1 : Int) = thenF f g (c.1 : Int)) :
    Lib.mapD g (Lib.mapD f l) = Lib.mapD h l := by
  rw [map_cat g, map_chs f, map_cat h]
  congr 1
  generalize chs l = cs at *
  induction cs with
  | nil => rfl
  | cons c cs ih =>
    have i := ih (fun d hd => hf d (List.mem_cons_of_mem _ hd)) (fun d hd => hh d (List.mem_cons_of_mem _ hd))
    unfold mapCh at i ⊢
    rw [List.flatMap_cons, List.flatMap_append, i, List.flatMap_cons]
    congr 1
    have h1 := hf c (List.mem_cons_self ..)
    have h2 := hh c (List.mem_cons_self ..)
    rw [h2]
    unfold thenF
    by_cases h0 : 0 ≤ f (c.1 : Int)
    · rw [if_pos h0, if_pos h0, List.flatMap_cons, List.flatMap_nil, List.append_nil]
      have h3 : ((encC (f (c.1 : Int))).1 : Int) = f (c.1 : Int) := h1 h0
      rw [h3]
    · rw [if_neg h0, if_neg h0, if_neg h0]; rfl
theorem img_sc : ∀ (rs : List (Int × Int)) (x : Int), (∀ r ∈ rs, 0 ≤ r.2 → scB r.2 = true) → (sc x : Int) = x → 0 ≤ imgB rs x → (sc (imgB rs x) : Int) = imgB rs x
  | [], x, _, hx, _ => hx
  | r :: rs, x, hr, hx, h0 => by
    unfold imgB at h0 ⊢
    split
    · rename_i he; rw [if_pos he] at h0; exact sc_of (hr r (List.mem_cons_self ..) h0)
    · rename_i he; rw [if_neg he] at h0; exact img_sc rs x (fun q hq => hr q (List.mem_cons_of_mem _ hq)) hx h0
/-- the rows that tell both -/
def bothR (h : Int → Int) (ps : List Pc) : List (Int × Int) := ps.map fun p => ((p.r : Int), h (p.r : Int))
theorem both_img (h : Int → Int) : ∀ (ps : List Pc) (x : Nat), x ∈ ps.map (fun p => p.r) → imgB (bothR h ps) (x : Int) = h (x : Int)
  | [], x, hx => by simp at hx
  | p :: ps, x, hx => by
    unfold bothR
    rw [List.map_cons]
    unfold imgB
    by_cases he : (p.r : Int) = (x : Int)
    · rw [if_pos he]; simp [he]
    · rw [if_neg he]
      refine both_img h ps x ?_
      rw [List.map_cons, List.mem_cons] at hx
      rcases hx with hx | hx
      · exact absurd (by rw [hx]) he
      · exact hx
theorem ch_pt {l : List UInt8} {c : Ch} (hc : c ∈ chs l) : c.1 ∈ (pcs 0 l).map (fun p => p.r) := by
  rw [pcs_lay, lay_map_r]; exact List.mem_map_of_mem hc
theorem map_both (f g : List (Int × Int)) (l : List UInt8) (hf : ∀ r ∈ f, 0 ≤ r.2 → scB r.2 = true) :
    Lib.mapD (imgB g) (Lib.mapD (imgB f) l) = Lib.mapD (imgB (bothR (thenF (imgB f) (imgB g)) (pcs 0 l))) l :=
  map_twice _ _ _ l (fun c hc => img_sc f _ hf (by rw [ch_sc hc])) (fun c hc => both_img _ _ _ (ch_pt hc))
theorem both_small (f g : List (Int × Int)) (ps : List Pc) (hp : ∀ x ∈ ps, x.r ≤ 1114111) (hf : Small f) (hg : Small g) : Small (bothR (thenF (imgB f) (imgB g)) ps) := by
  intro r hr
  obtain ⟨p, hp', rfl⟩ := List.mem_map.1 hr
  have h1 := img_small f (p.r : Int) hf (by have := hp p hp'; omega)
  show _ ≤ thenF (imgB f) (imgB g) (p.r : Int) ∧ _
  unfold thenF
  split
  · exact img_small g _ hg h1
  · exact h1
theorem both_take (h : Int → Int) (ps : List Pc) (k : Nat) (hk : k < ps.length) : rcells (bothR h (ps.take (k + 1))) = rcells (bothR h (ps.take k)) ++ [.int .i32 (ps[k].r : Int), .int .i32 (h (ps[k].r : Int))] := by
  unfold rcells bothR; rw [List.take_succ_eq_append_getElem hk, List.map_append, List.flatMap_append]; simp
theorem self_nil (l : List UInt8) : Lib.mapD (fun x => x) l = [] ↔ l = [] := by
  have h := self_count l
  constructor
  · intro e
    rw [e, chs_nil] at h
    exact chs_eq_nil.1 (List.length_eq_zero_iff.1 h.symm)
  · intro e; subst e; rfl
set_option maxHeartbeats 1000000 in
theorem laws_scalar (x : Int) (w : World) : Calls Tryd.prog 23 #[.int .i32 x] w fun e w' => e = .returned (.bool (scB x)) ∧ w' = w := by
  by_cases h0 : 0 ≤ x
  · by_cases h1 : x ≤ 1114111
    · by_cases h2 : x < 55296
      · have hb : scB x = true := by simp [scB]; omega
        rw [hb]
        go_enter Tryd.func23, Tryd.ntmps23
        go_wp2
        go_ret
        exact ⟨rfl, rfl⟩
      · by_cases h3 : 57343 < x
        · have hb : scB x = true := by simp [scB]; omega
          rw [hb]
          go_enter Tryd.func23, Tryd.ntmps23
          go_wp2
          go_ret
          exact ⟨rfl, rfl⟩
        · have hb : scB x = false := by simp [scB]; omega
          rw [hb]
          go_enter Tryd.func23, Tryd.ntmps23
          go_wp2
          go_ret
          exact ⟨rfl, rfl⟩
    · have hb : scB x = false := by simp [scB]; omega
      rw [hb]
      go_enter Tryd.func23, Tryd.ntmps23
      go_wp2
      go_ret
      exact ⟨rfl, rfl⟩
  · have hb : scB x = false := by simp [scB]; omega
    rw [hb]
    go_enter Tryd.func23, Tryd.ntmps23
    go_wp2
    go_ret
    exact ⟨rfl, rfl⟩
end Go.Proofs.YtlgibcphfmjddaaDoor
