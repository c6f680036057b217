/-
  The contract of impl.Map. Conditions: the tables of unicode/utf8 lie; the text is of at most 2^40 bytes; a table's rows lie in memory.
-/
import Derived.Test.YtlgibcphfmjddaaDoorMap
import Derived.Test.YtlgibcphfmjddaaDoorMapS
namespace Go.Proofs.YtlgibcphfmjddaaDoor
open Go.RowKit
set_option linter.unusedVariables false

theorem map_table (a : Option Addr) (cap : Nat) (rs : List (Int × Int)) (w : World) (hl : Lies w w.heap.size 2 a rs.length (rcells rs)) (hlen : rs.length ≤ 35184372088832) :
    MapB (.agg #[.slice a rs.length cap]) (imgB rs) w :=
  fun W x _ hb => impl_image a cap rs x W (hl.later hb) hlen
theorem make_bound2 : ∀ (fn : Fn) (first cap : Array Value) (w : World), (Instr.makeFunc fn first cap).run Tryd.prog w = .ok (.func fn first cap) w := fun _ _ _ _ => rfl
set_option maxHeartbeats 1000000 in
theorem impl_Map (a : Option Addr) (cap : Nat) (rs : List (Int × Int)) (s : ByteArray) (w : World) (hs : s.size ≤ 1099511627776) (hT : Tabs w) (hl : Lies w w.heap.size 2 a rs.length (rcells rs)) (hlen : rs.length ≤ 35184372088832) (hsm : Small rs) :
    Calls Tryd.prog 17 #[.string s, .agg #[.slice a rs.length cap]] w fun e w' => e = .returned (.string ⟨(Lib.mapD (imgB rs) s.data.toList).toArray⟩) ∧ Below w.heap.size w w' := by
  have hw : Below w.heap.size w (w.alloc (.cells #[.slice a rs.length cap] 29)) := (Below.refl _ w).alloc (Nat.le_refl _) _
  have HP := Lib.hid ((map_table a cap rs w hl hlen).later hw); have HW := Lib.hid hw; have HSM := Lib.hid hsm; have HT := Lib.hid (hT.below hw)
  have hmf := make_bound2
  clear hl hw hsm hT
  go_enter Tryd.func17, Tryd.ntmps17
  go_wp2_with (go_at_call 34; refine (lib_Map _ (imgB rs) s _ HP.out (fun x hx => img_small rs x HSM.out (by omega)) hs HT.out).mono ?_; rintro e w' ⟨rfl, hb⟩)
  go_ret
  exact ⟨rfl, HW.out.trans (hb.mono HW.out.size)⟩
end Go.Proofs.YtlgibcphfmjddaaDoor
