/-
  The contracts of the library functions that this seat reaches, laid at the seat numbers by the kit tools. No condition beyond those written at each.
-/
import Derived.Shelf.Strings.Builder1
import Derived.Shelf.Strings.Builder2
import Derived.Shelf.Small.Utf8
import Derived.Shelf.Strings.BuilderF
import Derived.Shelf.Strings.BuilderK
import Derived.Shelf.Strings.BuilderRune
import Derived.Shelf.Utf8.AppendRune
import Derived.Shelf.Utf8.AppendRunePlain
import Derived.Shelf.Strings.Builder2Cap
import Derived.Shelf.Strings.Prefix
import Derived.Shelf.Strings.Fold
import Derived.Shelf.Unicode.Decode
import Derived.Shelf.Bits.Mul64
import Derived.Shelf.Strings.Repeat
import Derived.Shelf.Unicode.DecodeSlow
import Derived.Shelf.Unicode.DecodeAny
import Derived.Shelf.Unicode.CaseLookup
import Derived.Shelf.Unicode.CaseConvert
import Derived.Shelf.Strings.MapAny
import Derived.Shelf.Strings.BuilderCap
import Derived.Test.YtlgibcphfmjddaaDoorProg
namespace Go.Proofs
open Go.Shelf
def Tryd.lays170_ren : Go.Shelf.Ren := ⟨fun | 170 => 61 | n => n, fun | 70 => 74 | 3 => 3 | 0 => 0 | 72 => 76 | 37 => 64 | 5 => 5 | n => n, fun | n => n⟩
theorem Tryd.lays170 : Go.Proofs.Lays.n170 Tryd.prog Tryd.lays170_ren := {
  mixed := by kernel_rfl
  f170 := Tryd.func61.trans (congrArg some (by kernel_rfl))
  t0 := Tryd.underlying0
  a0 := Tryd.isAgg0
  z0 := Tryd.sizeOf0
  v0 := Tryd.zeroValue0
  t3 := Tryd.underlying3
  a3 := Tryd.isAgg3
  z3 := Tryd.sizeOf3
  v3 := Tryd.zeroValue3
  t37 := Tryd.underlying64
  a37 := Tryd.isAgg64
  z37 := Tryd.sizeOf64
  v37 := Tryd.zeroValue64
  t70 := Tryd.underlying74
  a70 := Tryd.isAgg74
  z70 := Tryd.sizeOf74
  v70 := Tryd.zeroValue74
  t72 := Tryd.underlying76
  a72 := Tryd.isAgg76
  z72 := Tryd.sizeOf76
  v72 := Tryd.zeroValue76 }
open Go.RowKit in
theorem Tryd.Builder_Len (B b : Nat) (bs : List Value) (w : World) (h : Lib.IsBuilder 76 5 B b bs w) :
    Calls Tryd.prog 61 #[.pointer (some ⟨b, 0, none⟩)] w fun e w' => e = .returned (.int .i64 bs.length) ∧ w' = w := Any.Builder_Len Tryd.lays170 B b bs w h
def Tryd.lays169_ren : Go.Shelf.Ren := ⟨fun | 169 => 57 | n => n, fun | 70 => 74 | 9 => 9 | 0 => 0 | 72 => 76 | 37 => 64 | 127 => 101 | 3 => 3 | 5 => 5 | n => n, fun | n => n⟩
theorem Tryd.lays169 : Go.Proofs.Lays.n169 Tryd.prog Tryd.lays169_ren := {
  mixed := by kernel_rfl
  f169 := Tryd.func57.trans (congrArg some (by kernel_rfl))
  t0 := Tryd.underlying0
  a0 := Tryd.isAgg0
  z0 := Tryd.sizeOf0
  v0 := Tryd.zeroValue0
  t3 := Tryd.underlying3
  a3 := Tryd.isAgg3
  z3 := Tryd.sizeOf3
  v3 := Tryd.zeroValue3
  t9 := Tryd.underlying9
  a9 := Tryd.isAgg9
  z9 := Tryd.sizeOf9
  v9 := Tryd.zeroValue9
  t37 := Tryd.underlying64
  a37 := Tryd.isAgg64
  z37 := Tryd.sizeOf64
  v37 := Tryd.zeroValue64
  t70 := Tryd.underlying74
  a70 := Tryd.isAgg74
  z70 := Tryd.sizeOf74
  v70 := Tryd.zeroValue74
  t72 := Tryd.underlying76
  a72 := Tryd.isAgg76
  z72 := Tryd.sizeOf76
  v72 := Tryd.zeroValue76
  t127 := Tryd.underlying101
  a127 := Tryd.isAgg101
  z127 := Tryd.sizeOf101
  v127 := Tryd.zeroValue101 }
theorem Tryd.Builder_Extra_169 : Builder.Extra Tryd.prog Tryd.lays169_ren := {
  sizeBuilder := by kernel_rfl
  liesBuilder := by kernel_rfl
  t5 := Tryd.underlying5
  a5 := Tryd.isAgg5
  z5 := Tryd.sizeOf5
  v5 := Tryd.zeroValue5
  infoByte := by kernel_rfl
  cellsByte := by kernel_rfl
  sizeByte := by kernel_rfl
  neB5 := by decide }
open Go.RowKit in
theorem Tryd.Builder_String (B b : Nat) (l : List UInt8) (w : World) (h : Lib.IsBuilder 76 5 B b (Lib.byteCells l) w) (h0 : l ≠ []) :
    Calls Tryd.prog 57 #[.pointer (some ⟨b, 0, none⟩)] w fun e w' => e = .returned (.string ⟨l.toArray⟩) ∧ Below B w w' := Any.Builder_String Tryd.lays169 Tryd.Builder_Extra_169 B b l w h h0
open Go.RowKit in
theorem Tryd.Builder_String_empty (B b : Nat) (w : World) (h : Lib.IsBuilder 76 5 B b [] w) (hBw : B ≤ w.heap.size) :
    Calls Tryd.prog 57 #[.pointer (some ⟨b, 0, none⟩)] w fun e w' => e = .returned (.string ⟨#[]⟩) ∧ Below B w w' := Any.Builder_String_empty Tryd.lays169 Tryd.Builder_Extra_169 B b w h hBw
open Go.RowKit in
theorem Tryd.Builder_String_any (B b : Nat) (l : List UInt8) (w : World) (h : Lib.IsBuilder 76 5 B b (Lib.byteCells l) w) (hBw : B ≤ w.heap.size) :
    Calls Tryd.prog 57 #[.pointer (some ⟨b, 0, none⟩)] w fun e w' => e = .returned (.string ⟨l.toArray⟩) ∧ Below B w w' := Any.Builder_String_any Tryd.lays169 Tryd.Builder_Extra_169 B b l w h hBw
def Tryd.lays241_ren : Go.Shelf.Ren := ⟨fun | 241 => 68 | 277 => 78 | n => n, fun | 70 => 74 | 3 => 3 | 0 => 0 | 72 => 76 | 37 => 64 | 5 => 5 | n => n, fun | n => n⟩
theorem Tryd.lays241 : Go.Proofs.Lays.n241 Tryd.prog Tryd.lays241_ren := {
  mixed := by kernel_rfl
  f241 := Tryd.func68.trans (congrArg some (by kernel_rfl))
  f277 := Tryd.func78.trans (congrArg some (by kernel_rfl))
  t0 := Tryd.underlying0
  a0 := Tryd.isAgg0
  z0 := Tryd.sizeOf0
  v0 := Tryd.zeroValue0
  t3 := Tryd.underlying3
  a3 := Tryd.isAgg3
  z3 := Tryd.sizeOf3
  v3 := Tryd.zeroValue3
  t37 := Tryd.underlying64
  a37 := Tryd.isAgg64
  z37 := Tryd.sizeOf64
  v37 := Tryd.zeroValue64
  t70 := Tryd.underlying74
  a70 := Tryd.isAgg74
  z70 := Tryd.sizeOf74
  v70 := Tryd.zeroValue74
  t72 := Tryd.underlying76
  a72 := Tryd.isAgg76
  z72 := Tryd.sizeOf76
  v72 := Tryd.zeroValue76 }
theorem Tryd.Builder_Extra_241 : Builder.Extra Tryd.prog Tryd.lays241_ren := {
  sizeBuilder := by kernel_rfl
  liesBuilder := by kernel_rfl
  t5 := Tryd.underlying5
  a5 := Tryd.isAgg5
  z5 := Tryd.sizeOf5
  v5 := Tryd.zeroValue5
  infoByte := by kernel_rfl
  cellsByte := by kernel_rfl
  sizeByte := by kernel_rfl
  neB5 := by decide }
open Go.RowKit in
theorem Tryd.Builder_grow_fresh (B b n : Nat) (w : World) (hB : B ≤ b) (hbk : w.heap[b]? = some (.cells #[.pointer (some ⟨b, 0, none⟩), .slice none 0 0] 76 (0, 0))) (hBw : B ≤ w.heap.size) (hn : n ≤ 281474976710656) :
    Calls Tryd.prog 68 #[.pointer (some ⟨b, 0, none⟩), .int .i64 n] w fun e w' => e = .returned (.tuple #[]) ∧ (Lib.BuilderAt 76 5 B b (.pointer (some ⟨b, 0, none⟩)) [] w' ∧ Below B w w') := Any.Builder_grow_fresh Tryd.lays241 Tryd.Builder_Extra_241 B b n w hB hbk hBw hn
def Tryd.lays165_ren : Go.Shelf.Ren := ⟨fun | 165 => 52 | 240 => 67 | 241 => 68 | 276 => 77 | 277 => 78 | n => n, fun | 70 => 74 | 3 => 3 | 0 => 0 | 4 => 4 | 9 => 9 | 20 => 20 | 72 => 76 | 37 => 64 | 164 => 124 | 5 => 5 | n => n, fun | n => n⟩
theorem Tryd.lays165 : Go.Proofs.Lays.n165 Tryd.prog Tryd.lays165_ren := {
  mixed := by kernel_rfl
  f165 := Tryd.func52.trans (congrArg some (by kernel_rfl))
  f240 := Tryd.func67.trans (congrArg some (by kernel_rfl))
  f241 := Tryd.func68.trans (congrArg some (by kernel_rfl))
  f276 := Tryd.func77.trans (congrArg some (by kernel_rfl))
  f277 := Tryd.func78.trans (congrArg some (by kernel_rfl))
  t0 := Tryd.underlying0
  a0 := Tryd.isAgg0
  z0 := Tryd.sizeOf0
  v0 := Tryd.zeroValue0
  t3 := Tryd.underlying3
  a3 := Tryd.isAgg3
  z3 := Tryd.sizeOf3
  v3 := Tryd.zeroValue3
  t4 := Tryd.underlying4
  a4 := Tryd.isAgg4
  z4 := Tryd.sizeOf4
  v4 := Tryd.zeroValue4
  t9 := Tryd.underlying9
  a9 := Tryd.isAgg9
  z9 := Tryd.sizeOf9
  v9 := Tryd.zeroValue9
  t20 := Tryd.underlying20
  a20 := Tryd.isAgg20
  z20 := Tryd.sizeOf20
  v20 := Tryd.zeroValue20
  t37 := Tryd.underlying64
  a37 := Tryd.isAgg64
  z37 := Tryd.sizeOf64
  v37 := Tryd.zeroValue64
  t70 := Tryd.underlying74
  a70 := Tryd.isAgg74
  z70 := Tryd.sizeOf74
  v70 := Tryd.zeroValue74
  t72 := Tryd.underlying76
  a72 := Tryd.isAgg76
  z72 := Tryd.sizeOf76
  v72 := Tryd.zeroValue76
  t164 := Tryd.underlying124
  a164 := Tryd.isAgg124
  z164 := Tryd.sizeOf124
  v164 := Tryd.zeroValue124 }
theorem Tryd.Builder_Extra_165 : Builder.Extra Tryd.prog Tryd.lays165_ren := {
  sizeBuilder := by kernel_rfl
  liesBuilder := by kernel_rfl
  t5 := Tryd.underlying5
  a5 := Tryd.isAgg5
  z5 := Tryd.sizeOf5
  v5 := Tryd.zeroValue5
  infoByte := by kernel_rfl
  cellsByte := by kernel_rfl
  sizeByte := by kernel_rfl
  neB5 := by decide }
open Go.RowKit in
theorem Tryd.Builder_Grow_fresh (B b n : Nat) (w : World) (hB : B ≤ b) (hbk : w.heap[b]? = some (.cells #[.pointer none, .slice none 0 0] 76 (0, 0))) (hBw : B ≤ w.heap.size) (hn : n ≤ 281474976710656) :
    Calls Tryd.prog 52 #[.pointer (some ⟨b, 0, none⟩), .int .i64 n] w fun e w' => e = .returned (.tuple #[]) ∧ (Lib.BuilderAt 76 5 B b (.pointer (some ⟨b, 0, none⟩)) [] w' ∧ Below B w w') := Any.Builder_Grow_fresh Tryd.lays165 Tryd.Builder_Extra_165 B b n w hB hbk hBw hn
def Tryd.lays118_ren : Go.Shelf.Ren := ⟨fun | 118 => 51 | n => n, fun | 21 => 21 | 3 => 3 | 4 => 4 | n => n, fun | n => n⟩
theorem Tryd.lays118 : Go.Proofs.Lays.n118 Tryd.prog Tryd.lays118_ren := {
  mixed := by kernel_rfl
  f118 := Tryd.func51.trans (congrArg some (by kernel_rfl))
  t3 := Tryd.underlying3
  a3 := Tryd.isAgg3
  z3 := Tryd.sizeOf3
  v3 := Tryd.zeroValue3
  t4 := Tryd.underlying4
  a4 := Tryd.isAgg4
  z4 := Tryd.sizeOf4
  v4 := Tryd.zeroValue4
  t21 := Tryd.underlying21
  a21 := Tryd.isAgg21
  z21 := Tryd.sizeOf21
  v21 := Tryd.zeroValue21 }
theorem Tryd.utf8_RuneLen (r : Int) (w : World) :
    Calls Tryd.prog 51 #[.int .i32 r] w fun e w' => e = .returned (.int .i64 (Lib.runeLen r)) ∧ w' = w := Any.utf8_RuneLen Tryd.lays118 r w
open Go.RowKit in
theorem Tryd.Builder_Len_f (B b : Nat) (bs : List Value) (w : World) (h : Lib.IsBuilderF 76 5 B b bs w) :
    Calls Tryd.prog 61 #[.pointer (some ⟨b, 0, none⟩)] w fun e w' => e = .returned (.int .i64 bs.length) ∧ w' = w := Any.Builder_Len_f Tryd.lays170 B b bs w h
open Go.RowKit in
theorem Tryd.Builder_String_f (B b : Nat) (l : List UInt8) (w : World) (h : Lib.IsBuilderF 76 5 B b (Lib.byteCells l) w) (h0 : l ≠ []) :
    Calls Tryd.prog 57 #[.pointer (some ⟨b, 0, none⟩)] w fun e w' => e = .returned (.string ⟨l.toArray⟩) ∧ (Lib.IsBuilderF 76 5 B b (Lib.byteCells l) w' ∧ Below B w w') := Any.Builder_String_f Tryd.lays169 Tryd.Builder_Extra_169 B b l w h h0
open Go.RowKit in
theorem Tryd.Builder_String_empty_f (B b : Nat) (w : World) (h : Lib.IsBuilderF 76 5 B b [] w) (hBw : B ≤ w.heap.size) :
    Calls Tryd.prog 57 #[.pointer (some ⟨b, 0, none⟩)] w fun e w' => e = .returned (.string ⟨#[]⟩) ∧ (Lib.IsBuilderF 76 5 B b [] w' ∧ Below B w w') := Any.Builder_String_empty_f Tryd.lays169 Tryd.Builder_Extra_169 B b w h hBw
open Go.RowKit in
theorem Tryd.Builder_String_any_f (B b : Nat) (l : List UInt8) (w : World) (h : Lib.IsBuilderF 76 5 B b (Lib.byteCells l) w) (hBw : B ≤ w.heap.size) :
    Calls Tryd.prog 57 #[.pointer (some ⟨b, 0, none⟩)] w fun e w' => e = .returned (.string ⟨l.toArray⟩) ∧ (Lib.IsBuilderF 76 5 B b (Lib.byteCells l) w' ∧ Below B w w') := Any.Builder_String_any_f Tryd.lays169 Tryd.Builder_Extra_169 B b l w h hBw
open Go.RowKit in
theorem Tryd.Builder_String_k (B b : Nat) (l : List UInt8) (w : World) (h : Lib.IsBuilderF 76 5 B b (Lib.byteCells l) w) (h0 : l ≠ []) :
    Calls Tryd.prog 57 #[.pointer (some ⟨b, 0, none⟩)] w fun e w' => e = .returned (.string ⟨l.toArray⟩) ∧ (Lib.IsBuilderF 76 5 B b (Lib.byteCells l) w' ∧ Below B w w' ∧ Lib.OthersKept 5 (some b) w w') := Any.Builder_String_k Tryd.lays169 Tryd.Builder_Extra_169 B b l w h h0
open Go.RowKit in
theorem Tryd.Builder_String_empty_k (B b : Nat) (w : World) (h : Lib.IsBuilderF 76 5 B b [] w) (hBw : B ≤ w.heap.size) :
    Calls Tryd.prog 57 #[.pointer (some ⟨b, 0, none⟩)] w fun e w' => e = .returned (.string ⟨#[]⟩) ∧ (Lib.IsBuilderF 76 5 B b [] w' ∧ Below B w w' ∧ Lib.OthersKept 5 (some b) w w') := Any.Builder_String_empty_k Tryd.lays169 Tryd.Builder_Extra_169 B b w h hBw
open Go.RowKit in
theorem Tryd.Builder_String_any_k (B b : Nat) (l : List UInt8) (w : World) (h : Lib.IsBuilderF 76 5 B b (Lib.byteCells l) w) (hBw : B ≤ w.heap.size) :
    Calls Tryd.prog 57 #[.pointer (some ⟨b, 0, none⟩)] w fun e w' => e = .returned (.string ⟨l.toArray⟩) ∧ (Lib.IsBuilderF 76 5 B b (Lib.byteCells l) w' ∧ Below B w w' ∧ Lib.OthersKept 5 (some b) w w') := Any.Builder_String_any_k Tryd.lays169 Tryd.Builder_Extra_169 B b l w h hBw
def Tryd.lays278_ren : Go.Shelf.Ren := ⟨fun | 278 => 79 | n => n, fun | 37 => 64 | 21 => 21 | 51 => 102 | 4 => 4 | 46 => 93 | 5 => 5 | n => n, fun | n => n⟩
theorem Tryd.lays278 : Go.Proofs.Lays.n278 Tryd.prog Tryd.lays278_ren := {
  mixed := by kernel_rfl
  f278 := Tryd.func79.trans (congrArg some (by kernel_rfl))
  t4 := Tryd.underlying4
  a4 := Tryd.isAgg4
  z4 := Tryd.sizeOf4
  v4 := Tryd.zeroValue4
  t5 := Tryd.underlying5
  a5 := Tryd.isAgg5
  z5 := Tryd.sizeOf5
  v5 := Tryd.zeroValue5
  t21 := Tryd.underlying21
  a21 := Tryd.isAgg21
  z21 := Tryd.sizeOf21
  v21 := Tryd.zeroValue21
  t37 := Tryd.underlying64
  a37 := Tryd.isAgg64
  z37 := Tryd.sizeOf64
  v37 := Tryd.zeroValue64
  t46 := Tryd.underlying93
  a46 := Tryd.isAgg93
  z46 := Tryd.sizeOf93
  v46 := Tryd.zeroValue93
  t51 := Tryd.underlying102
  a51 := Tryd.isAgg102
  z51 := Tryd.sizeOf102
  v51 := Tryd.zeroValue102 }
open Go.RowKit in
theorem Tryd.utf8_appendRuneNonASCII_row (B : Nat) (v : Value) (n : Nat) (xs : List Value) (r : Int) (hr0 : -2147483648 ≤ r) (hr1 : r ≤ 2147483647) (hna : r < 0 ∨ 128 ≤ r) (w : World) (hown : w.ownsRowF B 5 1 v n xs) (hlen : n + 4 ≤ 140737488355328) (hBw : B ≤ w.heap.size) :
    Calls Tryd.prog 79 #[v, .int .i32 r] w fun e w' => ∃ v', e = .returned v' ∧ w'.ownsRowF B 5 1 v' (n + (Lib.runeCells r).length) (xs ++ Lib.runeCells r) ∧ ∃ o, (w.alloc o).grownBy w' v.ownBlock := Any.utf8_appendRuneNonASCII_row Tryd.lays278 (by kernel_rfl) B v n xs r hr0 hr1 hna w hown hlen hBw
def Tryd.lays242_ren : Go.Shelf.Ren := ⟨fun | 242 => 69 | 278 => 79 | n => n, fun | 37 => 64 | 21 => 21 | 51 => 102 | 4 => 4 | 5 => 5 | 46 => 93 | n => n, fun | n => n⟩
theorem Tryd.lays242 : Go.Proofs.Lays.n242 Tryd.prog Tryd.lays242_ren := {
  mixed := by kernel_rfl
  f242 := Tryd.func69.trans (congrArg some (by kernel_rfl))
  f278 := Tryd.func79.trans (congrArg some (by kernel_rfl))
  t4 := Tryd.underlying4
  a4 := Tryd.isAgg4
  z4 := Tryd.sizeOf4
  v4 := Tryd.zeroValue4
  t5 := Tryd.underlying5
  a5 := Tryd.isAgg5
  z5 := Tryd.sizeOf5
  v5 := Tryd.zeroValue5
  t21 := Tryd.underlying21
  a21 := Tryd.isAgg21
  z21 := Tryd.sizeOf21
  v21 := Tryd.zeroValue21
  t37 := Tryd.underlying64
  a37 := Tryd.isAgg64
  z37 := Tryd.sizeOf64
  v37 := Tryd.zeroValue64
  t46 := Tryd.underlying93
  a46 := Tryd.isAgg93
  z46 := Tryd.sizeOf93
  v46 := Tryd.zeroValue93
  t51 := Tryd.underlying102
  a51 := Tryd.isAgg102
  z51 := Tryd.sizeOf102
  v51 := Tryd.zeroValue102 }
open Go.RowKit in
theorem Tryd.utf8_AppendRune_row (B : Nat) (v : Value) (n : Nat) (xs : List Value) (r : Int) (hr0 : -2147483648 ≤ r) (hr1 : r ≤ 2147483647) (w : World) (hown : w.ownsRowF B 5 1 v n xs) (hlen : n + 4 ≤ 140737488355328) (hBw : B ≤ w.heap.size) :
    Calls Tryd.prog 69 #[v, .int .i32 r] w fun e w' => ∃ v', e = .returned v' ∧ w'.ownsRowF B 5 1 v' (n + (Lib.runeCells r).length) (xs ++ Lib.runeCells r) ∧ ∃ o, (w.alloc o).grownBy w' v.ownBlock := Any.utf8_AppendRune_row Tryd.lays242 (by kernel_rfl) B v n xs r hr0 hr1 w hown hlen hBw
open Go.RowKit in
theorem Tryd.utf8_appendRuneNonASCII_plain (B : Nat) (v : Value) (n : Nat) (xs : List Value) (r : Int) (hr0 : -2147483648 ≤ r) (hr1 : r ≤ 2147483647) (hna : r < 0 ∨ 128 ≤ r) (w : World) (hown : w.ownsRow B 5 1 v n xs) (hlen : n + 4 ≤ 140737488355328) (hBw : B ≤ w.heap.size) :
    Calls Tryd.prog 79 #[v, .int .i32 r] w fun e w' => ∃ v', e = .returned v' ∧ w'.ownsRow B 5 1 v' (n + (Lib.runeCells r).length) (xs ++ Lib.runeCells r) ∧ ∃ o, (w.alloc o).grownBy w' v.ownBlock := Any.utf8_appendRuneNonASCII_plain Tryd.lays278 (by kernel_rfl) B v n xs r hr0 hr1 hna w hown hlen hBw
open Go.RowKit in
theorem Tryd.utf8_AppendRune_plain (B : Nat) (v : Value) (n : Nat) (xs : List Value) (r : Int) (hr0 : -2147483648 ≤ r) (hr1 : r ≤ 2147483647) (w : World) (hown : w.ownsRow B 5 1 v n xs) (hlen : n + 4 ≤ 140737488355328) (hBw : B ≤ w.heap.size) :
    Calls Tryd.prog 69 #[v, .int .i32 r] w fun e w' => ∃ v', e = .returned v' ∧ w'.ownsRow B 5 1 v' (n + (Lib.runeCells r).length) (xs ++ Lib.runeCells r) ∧ ∃ o, (w.alloc o).grownBy w' v.ownBlock := Any.utf8_AppendRune_plain Tryd.lays242 (by kernel_rfl) B v n xs r hr0 hr1 w hown hlen hBw
open Go.RowKit in
theorem Tryd.Builder_grow_fresh_cap (B b n : Nat) (w : World) (hB : B ≤ b) (hbk : w.heap[b]? = some (.cells #[.pointer (some ⟨b, 0, none⟩), .slice none 0 0] 76 (0, 0))) (hBw : B ≤ w.heap.size) (hn : n ≤ 281474976710656) :
    Calls Tryd.prog 68 #[.pointer (some ⟨b, 0, none⟩), .int .i64 n] w fun e w' => e = .returned (.tuple #[]) ∧ (Lib.BuilderAt 76 5 B b (.pointer (some ⟨b, 0, none⟩)) [] w' ∧ Below B w w') ∧ ∃ p cap, w'.cell? ⟨b, 1, none⟩ = some (.slice p 0 cap) ∧ n ≤ cap := Any.Builder_grow_fresh_cap Tryd.lays241 Tryd.Builder_Extra_241 B b n w hB hbk hBw hn
open Go.RowKit in
theorem Tryd.Builder_Grow_fresh_cap (B b n : Nat) (w : World) (hB : B ≤ b) (hbk : w.heap[b]? = some (.cells #[.pointer none, .slice none 0 0] 76 (0, 0))) (hBw : B ≤ w.heap.size) (hn : n ≤ 281474976710656) :
    Calls Tryd.prog 52 #[.pointer (some ⟨b, 0, none⟩), .int .i64 n] w fun e w' => e = .returned (.tuple #[]) ∧ (Lib.BuilderAt 76 5 B b (.pointer (some ⟨b, 0, none⟩)) [] w' ∧ Below B w w') ∧ ∃ p cap, w'.cell? ⟨b, 1, none⟩ = some (.slice p 0 cap) ∧ n ≤ cap := Any.Builder_Grow_fresh_cap Tryd.lays165 Tryd.Builder_Extra_165 B b n w hB hbk hBw hn
def Tryd.lays206_ren : Go.Shelf.Ren := ⟨fun | 206 => 72 | n => n, fun | 9 => 9 | 4 => 4 | 3 => 3 | n => n, fun | n => n⟩
theorem Tryd.lays206 : Go.Proofs.Lays.n206 Tryd.prog Tryd.lays206_ren := {
  mixed := by kernel_rfl
  f206 := Tryd.func72.trans (congrArg some (by kernel_rfl))
  t3 := Tryd.underlying3
  a3 := Tryd.isAgg3
  z3 := Tryd.sizeOf3
  v3 := Tryd.zeroValue3
  t4 := Tryd.underlying4
  a4 := Tryd.isAgg4
  z4 := Tryd.sizeOf4
  v4 := Tryd.zeroValue4
  t9 := Tryd.underlying9
  a9 := Tryd.isAgg9
  z9 := Tryd.sizeOf9
  v9 := Tryd.zeroValue9 }
open Go.RowKit Go.Lib in
theorem Tryd.stringslite_HasPrefix (s p : ByteArray) (w : World) :
    Calls Tryd.prog 72 #[.string s, .string p] w fun e w' => e = .returned (.bool (Lib.hasPrefix s.data.toList p.data.toList)) ∧ w' = w := Any.stringslite_HasPrefix Tryd.lays206 s p w
def Tryd.lays99_ren : Go.Shelf.Ren := ⟨fun | 99 => 60 | 206 => 72 | n => n, fun | 9 => 9 | 4 => 4 | 3 => 3 | n => n, fun | n => n⟩
theorem Tryd.lays99 : Go.Proofs.Lays.n99 Tryd.prog Tryd.lays99_ren := {
  mixed := by kernel_rfl
  f99 := Tryd.func60.trans (congrArg some (by kernel_rfl))
  f206 := Tryd.func72.trans (congrArg some (by kernel_rfl))
  t3 := Tryd.underlying3
  a3 := Tryd.isAgg3
  z3 := Tryd.sizeOf3
  v3 := Tryd.zeroValue3
  t4 := Tryd.underlying4
  a4 := Tryd.isAgg4
  z4 := Tryd.sizeOf4
  v4 := Tryd.zeroValue4
  t9 := Tryd.underlying9
  a9 := Tryd.isAgg9
  z9 := Tryd.sizeOf9
  v9 := Tryd.zeroValue9 }
open Go.RowKit Go.Lib in
theorem Tryd.strings_HasPrefix (s p : ByteArray) (w : World) :
    Calls Tryd.prog 60 #[.string s, .string p] w fun e w' => e = .returned (.bool (Lib.hasPrefix s.data.toList p.data.toList)) ∧ w' = w := Any.strings_HasPrefix Tryd.lays99 s p w
def Tryd.lays164_ren : Go.Shelf.Ren := ⟨fun | 164 => 46 | 197 => 50 | 239 => 63 | 260 => 66 | 274 => 74 | 275 => 75 | n => n, fun | 9 => 9 | 4 => 4 | 3 => 3 | 5 => 5 | 0 => 0 | 21 => 21 | 105 => 77 | 156 => 111 | 49 => 110 | 157 => 112 | 46 => 93 | 159 => 114 | 162 => 117 | 160 => 115 | 119 => 120 | 139 => 123 | 138 => 122 | 208 => 130 | 51 => 102 | 206 => 128 | n => n, fun | 11 => 0 | 12 => 1 | 13 => 2 | 3 => 3 | 4 => 4 | n => n⟩
theorem Tryd.lays164 : Go.Proofs.Lays.n164 Tryd.prog Tryd.lays164_ren := {
  mixed := by kernel_rfl
  f164 := Tryd.func46.trans (congrArg some (by kernel_rfl))
  f197 := Tryd.func50.trans (congrArg some (by kernel_rfl))
  f239 := Tryd.func63.trans (congrArg some (by kernel_rfl))
  f260 := Tryd.func66.trans (congrArg some (by kernel_rfl))
  f274 := Tryd.func74.trans (congrArg some (by kernel_rfl))
  f275 := Tryd.func75.trans (congrArg some (by kernel_rfl))
  t0 := Tryd.underlying0
  a0 := Tryd.isAgg0
  z0 := Tryd.sizeOf0
  v0 := Tryd.zeroValue0
  t3 := Tryd.underlying3
  a3 := Tryd.isAgg3
  z3 := Tryd.sizeOf3
  v3 := Tryd.zeroValue3
  t4 := Tryd.underlying4
  a4 := Tryd.isAgg4
  z4 := Tryd.sizeOf4
  v4 := Tryd.zeroValue4
  t5 := Tryd.underlying5
  a5 := Tryd.isAgg5
  z5 := Tryd.sizeOf5
  v5 := Tryd.zeroValue5
  t9 := Tryd.underlying9
  a9 := Tryd.isAgg9
  z9 := Tryd.sizeOf9
  v9 := Tryd.zeroValue9
  t21 := Tryd.underlying21
  a21 := Tryd.isAgg21
  z21 := Tryd.sizeOf21
  v21 := Tryd.zeroValue21
  t46 := Tryd.underlying93
  a46 := Tryd.isAgg93
  z46 := Tryd.sizeOf93
  v46 := Tryd.zeroValue93
  t49 := Tryd.underlying110
  a49 := Tryd.isAgg110
  z49 := Tryd.sizeOf110
  v49 := Tryd.zeroValue110
  t51 := Tryd.underlying102
  a51 := Tryd.isAgg102
  z51 := Tryd.sizeOf102
  v51 := Tryd.zeroValue102
  t105 := Tryd.underlying77
  a105 := Tryd.isAgg77
  z105 := Tryd.sizeOf77
  v105 := Tryd.zeroValue77
  t119 := Tryd.underlying120
  a119 := Tryd.isAgg120
  z119 := Tryd.sizeOf120
  t138 := Tryd.underlying122
  a138 := Tryd.isAgg122
  z138 := Tryd.sizeOf122
  v138 := Tryd.zeroValue122
  t139 := Tryd.underlying123
  a139 := Tryd.isAgg123
  z139 := Tryd.sizeOf123
  v139 := Tryd.zeroValue123
  t156 := Tryd.underlying111
  a156 := Tryd.isAgg111
  z156 := Tryd.sizeOf111
  t157 := Tryd.underlying112
  a157 := Tryd.isAgg112
  z157 := Tryd.sizeOf112
  v157 := Tryd.zeroValue112
  t159 := Tryd.underlying114
  a159 := Tryd.isAgg114
  z159 := Tryd.sizeOf114
  v159 := Tryd.zeroValue114
  t160 := Tryd.underlying115
  a160 := Tryd.isAgg115
  z160 := Tryd.sizeOf115
  v160 := Tryd.zeroValue115
  t162 := Tryd.underlying117
  a162 := Tryd.isAgg117
  z162 := Tryd.sizeOf117
  v162 := Tryd.zeroValue117
  t206 := Tryd.underlying128
  a206 := Tryd.isAgg128
  z206 := Tryd.sizeOf128
  v206 := Tryd.zeroValue128
  t208 := Tryd.underlying130
  a208 := Tryd.isAgg130
  z208 := Tryd.sizeOf130
  v208 := Tryd.zeroValue130
  g3 := by kernel_rfl
  g4 := by kernel_rfl
  g11 := by kernel_rfl
  g12 := by kernel_rfl
  g13 := by kernel_rfl }
open Go.RowKit Go.Lib in
theorem Tryd.strings_EqualFold (s t : ByteArray) (w : World) (hs : s.size < 4294967281) (has : ∀ (j : Nat) b, s.data.toList[j]? = some b → b.toNat < 128) (hat : ∀ (j : Nat) b, t.data.toList[j]? = some b → b.toNat < 128) :
    Calls Tryd.prog 46 #[.string s, .string t] w fun e w' => e = .returned (.bool (Lib.equalFold s.data.toList t.data.toList)) ∧ w' = w := Any.strings_EqualFold Tryd.lays164 s t w hs has hat
def Tryd.lays197_ren : Go.Shelf.Ren := ⟨fun | 197 => 50 | 260 => 66 | n => n, fun | 9 => 9 | 21 => 21 | 3 => 3 | 4 => 4 | 5 => 5 | 105 => 77 | 119 => 120 | 0 => 0 | 46 => 93 | 139 => 123 | 138 => 122 | n => n, fun | 3 => 3 | 4 => 4 | n => n⟩
theorem Tryd.lays197 : Go.Proofs.Lays.n197 Tryd.prog Tryd.lays197_ren := {
  mixed := by kernel_rfl
  f197 := Tryd.func50.trans (congrArg some (by kernel_rfl))
  f260 := Tryd.func66.trans (congrArg some (by kernel_rfl))
  t0 := Tryd.underlying0
  a0 := Tryd.isAgg0
  z0 := Tryd.sizeOf0
  v0 := Tryd.zeroValue0
  t3 := Tryd.underlying3
  a3 := Tryd.isAgg3
  z3 := Tryd.sizeOf3
  v3 := Tryd.zeroValue3
  t4 := Tryd.underlying4
  a4 := Tryd.isAgg4
  z4 := Tryd.sizeOf4
  v4 := Tryd.zeroValue4
  t5 := Tryd.underlying5
  a5 := Tryd.isAgg5
  z5 := Tryd.sizeOf5
  v5 := Tryd.zeroValue5
  t9 := Tryd.underlying9
  a9 := Tryd.isAgg9
  z9 := Tryd.sizeOf9
  v9 := Tryd.zeroValue9
  t21 := Tryd.underlying21
  a21 := Tryd.isAgg21
  z21 := Tryd.sizeOf21
  v21 := Tryd.zeroValue21
  t46 := Tryd.underlying93
  a46 := Tryd.isAgg93
  z46 := Tryd.sizeOf93
  v46 := Tryd.zeroValue93
  t105 := Tryd.underlying77
  a105 := Tryd.isAgg77
  z105 := Tryd.sizeOf77
  v105 := Tryd.zeroValue77
  t119 := Tryd.underlying120
  a119 := Tryd.isAgg120
  z119 := Tryd.sizeOf120
  t138 := Tryd.underlying122
  a138 := Tryd.isAgg122
  z138 := Tryd.sizeOf122
  v138 := Tryd.zeroValue122
  t139 := Tryd.underlying123
  a139 := Tryd.isAgg123
  z139 := Tryd.sizeOf123
  v139 := Tryd.zeroValue123
  g3 := by kernel_rfl
  g4 := by kernel_rfl }
open Go.RowKit Go.Lib in
theorem Tryd.utf8_DecodeRuneInString_ascii (s : ByteArray) (x : UInt8) (w : World) (h0 : s.data.toList[0]? = some x) (hx : x.toNat < 128) :
    Calls Tryd.prog 50 #[.string s] w fun e w' => e = .returned (.tuple #[.int .i32 x.toNat, .int .i64 1]) ∧ w' = w := Any.utf8_DecodeRuneInString_ascii Tryd.lays197 s x w h0 hx
def Tryd.lays264_ren : Go.Shelf.Ren := ⟨fun | 264 => 71 | n => n, fun | 53 => 105 | 46 => 93 | n => n, fun | n => n⟩
theorem Tryd.lays264 : Go.Proofs.Lays.n264 Tryd.prog Tryd.lays264_ren := {
  mixed := by kernel_rfl
  f264 := Tryd.func71.trans (congrArg some (by kernel_rfl))
  t46 := Tryd.underlying93
  a46 := Tryd.isAgg93
  z46 := Tryd.sizeOf93
  v46 := Tryd.zeroValue93
  t53 := Tryd.underlying105
  a53 := Tryd.isAgg105
  z53 := Tryd.sizeOf105
  v53 := Tryd.zeroValue105 }
open Go.RowKit Go.Lib in
theorem Tryd.bits_Mul64 (x y : Nat) (hx : x < 18446744073709551616) (hy : y < 18446744073709551616) (w : World) :
    Calls Tryd.prog 71 #[.int .u64 x, .int .u64 y] w fun e w' => e = .returned (.tuple #[.int .u64 ((x * y / 18446744073709551616 : Nat) : Int), .int .u64 ((x * y % 18446744073709551616 : Nat) : Int)]) ∧ w' = w := Any.bits_Mul64 Tryd.lays264 x y hx hy w
def Tryd.lays212_ren : Go.Shelf.Ren := ⟨fun | 212 => 59 | 263 => 70 | 264 => 71 | n => n, fun | 46 => 93 | 51 => 102 | 146 => 103 | 53 => 105 | 148 => 106 | n => n, fun | n => n⟩
theorem Tryd.lays212 : Go.Proofs.Lays.n212 Tryd.prog Tryd.lays212_ren := {
  mixed := by kernel_rfl
  f212 := Tryd.func59.trans (congrArg some (by kernel_rfl))
  f263 := Tryd.func70.trans (congrArg some (by kernel_rfl))
  f264 := Tryd.func71.trans (congrArg some (by kernel_rfl))
  t46 := Tryd.underlying93
  a46 := Tryd.isAgg93
  z46 := Tryd.sizeOf93
  v46 := Tryd.zeroValue93
  t51 := Tryd.underlying102
  a51 := Tryd.isAgg102
  z51 := Tryd.sizeOf102
  v51 := Tryd.zeroValue102
  t53 := Tryd.underlying105
  a53 := Tryd.isAgg105
  z53 := Tryd.sizeOf105
  v53 := Tryd.zeroValue105
  t146 := Tryd.underlying103
  a146 := Tryd.isAgg103
  z146 := Tryd.sizeOf103
  v146 := Tryd.zeroValue103
  t148 := Tryd.underlying106
  a148 := Tryd.isAgg106
  z148 := Tryd.sizeOf106
  v148 := Tryd.zeroValue106 }
open Go.RowKit Go.Lib in
theorem Tryd.bits_Mul (x y : Nat) (hx : x < 18446744073709551616) (hy : y < 18446744073709551616) (w : World) :
    Calls Tryd.prog 59 #[.int .u64 x, .int .u64 y] w fun e w' => e = .returned (.tuple #[.int .u64 ((x * y / 18446744073709551616 : Nat) : Int), .int .u64 ((x * y % 18446744073709551616 : Nat) : Int)]) ∧ w' = w := Any.bits_Mul Tryd.lays212 x y hx hy w
def Tryd.lays105_ren : Go.Shelf.Ren := ⟨fun | 105 => 44 | 212 => 59 | 99 => 60 | 165 => 52 | 166 => 53 | 170 => 61 | 169 => 57 | 263 => 70 | 264 => 71 | 206 => 72 | 240 => 67 | 241 => 68 | 276 => 77 | 277 => 78 | n => n, fun | 9 => 9 | 3 => 3 | 4 => 4 | 20 => 20 | 0 => 0 | 46 => 93 | 109 => 94 | 5 => 5 | 72 => 76 | 76 => 83 | 51 => 102 | 146 => 103 | 53 => 105 | 148 => 106 | 70 => 74 | 37 => 64 | 75 => 82 | 127 => 101 | 164 => 124 | 80 => 88 | n => n, fun | n => n⟩
theorem Tryd.lays105 : Go.Proofs.Lays.n105 Tryd.prog Tryd.lays105_ren := {
  mixed := by kernel_rfl
  f99 := Tryd.func60.trans (congrArg some (by kernel_rfl))
  f105 := Tryd.func44.trans (congrArg some (by kernel_rfl))
  f165 := Tryd.func52.trans (congrArg some (by kernel_rfl))
  f166 := Tryd.func53.trans (congrArg some (by kernel_rfl))
  f169 := Tryd.func57.trans (congrArg some (by kernel_rfl))
  f170 := Tryd.func61.trans (congrArg some (by kernel_rfl))
  f206 := Tryd.func72.trans (congrArg some (by kernel_rfl))
  f212 := Tryd.func59.trans (congrArg some (by kernel_rfl))
  f240 := Tryd.func67.trans (congrArg some (by kernel_rfl))
  f241 := Tryd.func68.trans (congrArg some (by kernel_rfl))
  f263 := Tryd.func70.trans (congrArg some (by kernel_rfl))
  f264 := Tryd.func71.trans (congrArg some (by kernel_rfl))
  f276 := Tryd.func77.trans (congrArg some (by kernel_rfl))
  f277 := Tryd.func78.trans (congrArg some (by kernel_rfl))
  t0 := Tryd.underlying0
  a0 := Tryd.isAgg0
  z0 := Tryd.sizeOf0
  v0 := Tryd.zeroValue0
  t3 := Tryd.underlying3
  a3 := Tryd.isAgg3
  z3 := Tryd.sizeOf3
  v3 := Tryd.zeroValue3
  t4 := Tryd.underlying4
  a4 := Tryd.isAgg4
  z4 := Tryd.sizeOf4
  v4 := Tryd.zeroValue4
  t5 := Tryd.underlying5
  a5 := Tryd.isAgg5
  z5 := Tryd.sizeOf5
  v5 := Tryd.zeroValue5
  t9 := Tryd.underlying9
  a9 := Tryd.isAgg9
  z9 := Tryd.sizeOf9
  v9 := Tryd.zeroValue9
  t20 := Tryd.underlying20
  a20 := Tryd.isAgg20
  z20 := Tryd.sizeOf20
  v20 := Tryd.zeroValue20
  t37 := Tryd.underlying64
  a37 := Tryd.isAgg64
  z37 := Tryd.sizeOf64
  v37 := Tryd.zeroValue64
  t46 := Tryd.underlying93
  a46 := Tryd.isAgg93
  z46 := Tryd.sizeOf93
  v46 := Tryd.zeroValue93
  t51 := Tryd.underlying102
  a51 := Tryd.isAgg102
  z51 := Tryd.sizeOf102
  v51 := Tryd.zeroValue102
  t53 := Tryd.underlying105
  a53 := Tryd.isAgg105
  z53 := Tryd.sizeOf105
  v53 := Tryd.zeroValue105
  t70 := Tryd.underlying74
  a70 := Tryd.isAgg74
  z70 := Tryd.sizeOf74
  v70 := Tryd.zeroValue74
  t72 := Tryd.underlying76
  a72 := Tryd.isAgg76
  z72 := Tryd.sizeOf76
  v72 := Tryd.zeroValue76
  t75 := Tryd.underlying82
  a75 := Tryd.isAgg82
  z75 := Tryd.sizeOf82
  v75 := Tryd.zeroValue82
  t76 := Tryd.underlying83
  a76 := Tryd.isAgg83
  z76 := Tryd.sizeOf83
  v76 := Tryd.zeroValue83
  t109 := Tryd.underlying94
  a109 := Tryd.isAgg94
  z109 := Tryd.sizeOf94
  v109 := Tryd.zeroValue94
  t127 := Tryd.underlying101
  a127 := Tryd.isAgg101
  z127 := Tryd.sizeOf101
  v127 := Tryd.zeroValue101
  t146 := Tryd.underlying103
  a146 := Tryd.isAgg103
  z146 := Tryd.sizeOf103
  v146 := Tryd.zeroValue103
  t148 := Tryd.underlying106
  a148 := Tryd.isAgg106
  z148 := Tryd.sizeOf106
  v148 := Tryd.zeroValue106
  t164 := Tryd.underlying124
  a164 := Tryd.isAgg124
  z164 := Tryd.sizeOf124
  v164 := Tryd.zeroValue124 }
theorem Tryd.Builder_Extra_105 : Builder.Extra Tryd.prog Tryd.lays105_ren := {
  sizeBuilder := by kernel_rfl
  liesBuilder := by kernel_rfl
  t5 := Tryd.underlying5
  a5 := Tryd.isAgg5
  z5 := Tryd.sizeOf5
  v5 := Tryd.zeroValue5
  infoByte := by kernel_rfl
  cellsByte := by kernel_rfl
  sizeByte := by kernel_rfl
  neB5 := by decide }
open Go.RowKit Go.Lib in
theorem Tryd.strings_Repeat_main (s : ByteArray) (c : Nat) (w : World) (hc2 : 2 ≤ c) (hc : c ≤ 9223372036854775807) (hlen : s.size * c ≤ 140737488355328) (h0 : 0 < s.size) :
    Calls Tryd.prog 44 #[.string s, .int .i64 c] w fun e w' => e = .returned (.string ⟨(Lib.repeatL s.data.toList c).toArray⟩) ∧ Below w.heap.size w w' := Any.strings_Repeat_main Tryd.lays105 Tryd.Builder_Extra_105 s c w hc2 hc hlen h0
open Go.RowKit Go.Lib in
theorem Tryd.strings_Repeat_zero (s : ByteArray) (w : World) :
    Calls Tryd.prog 44 #[.string s, .int .i64 0] w fun e w' => e = .returned (.string ⟨#[]⟩) ∧ w' = w := Any.strings_Repeat_zero Tryd.lays105 s w
open Go.RowKit Go.Lib in
theorem Tryd.strings_Repeat_one (s : ByteArray) (w : World) :
    Calls Tryd.prog 44 #[.string s, .int .i64 1] w fun e w' => e = .returned (.string s) ∧ w' = w := Any.strings_Repeat_one Tryd.lays105 s w
open Go.RowKit Go.Lib in
theorem Tryd.strings_Repeat_empty (s : ByteArray) (c : Nat) (w : World) (hc2 : 2 ≤ c) (hc : c ≤ 9223372036854775807) (h0 : s.size = 0) :
    Calls Tryd.prog 44 #[.string s, .int .i64 c] w fun e w' => e = .returned (.string ⟨#[]⟩) ∧ w' = w := Any.strings_Repeat_empty Tryd.lays105 s c w hc2 hc h0
open Go.RowKit Go.Lib in
theorem Tryd.strings_Repeat_negative (s : ByteArray) (c : Int) (w : World) (hc : c < 0) :
    Calls Tryd.prog 44 #[.string s, .int .i64 c] w fun e w' => e = .panicked [{ v := repeatPanic Tryd.lays105_ren "strings: negative Repeat count", recovered := false }] ∧ w' = w := Any.strings_Repeat_negative Tryd.lays105 s c w hc
open Go.RowKit Go.Lib in
theorem Tryd.strings_Repeat_overflow (s : ByteArray) (c : Nat) (w : World) (hc : c ≤ 9223372036854775807) (hs : s.size ≤ 9223372036854775807) (hbig : 9223372036854775807 < s.size * c) :
    Calls Tryd.prog 44 #[.string s, .int .i64 c] w fun e w' => e = .panicked [{ v := repeatPanic Tryd.lays105_ren "strings: Repeat output length overflow", recovered := false }] ∧ w' = w := Any.strings_Repeat_overflow Tryd.lays105 s c w hc hs hbig
open Go.RowKit Go.Lib in
theorem Tryd.strings_Repeat (s : ByteArray) (c : Nat) (w : World) (hc : c ≤ 9223372036854775807) (hlen : s.size * c ≤ 140737488355328) :
    Calls Tryd.prog 44 #[.string s, .int .i64 c] w fun e w' => e = .returned (.string ⟨(Lib.repeatL s.data.toList c).toArray⟩) ∧ Below w.heap.size w w' := Any.strings_Repeat Tryd.lays105 Tryd.Builder_Extra_105 s c w hc hlen
def Tryd.lays260_ren : Go.Shelf.Ren := ⟨fun | 260 => 66 | n => n, fun | 9 => 9 | 21 => 21 | 3 => 3 | 4 => 4 | 5 => 5 | 119 => 120 | 0 => 0 | 46 => 93 | 139 => 123 | 138 => 122 | n => n, fun | 3 => 3 | 4 => 4 | n => n⟩
theorem Tryd.lays260 : Go.Proofs.Lays.n260 Tryd.prog Tryd.lays260_ren := {
  mixed := by kernel_rfl
  f260 := Tryd.func66.trans (congrArg some (by kernel_rfl))
  t0 := Tryd.underlying0
  a0 := Tryd.isAgg0
  z0 := Tryd.sizeOf0
  v0 := Tryd.zeroValue0
  t3 := Tryd.underlying3
  a3 := Tryd.isAgg3
  z3 := Tryd.sizeOf3
  v3 := Tryd.zeroValue3
  t4 := Tryd.underlying4
  a4 := Tryd.isAgg4
  z4 := Tryd.sizeOf4
  v4 := Tryd.zeroValue4
  t5 := Tryd.underlying5
  a5 := Tryd.isAgg5
  z5 := Tryd.sizeOf5
  v5 := Tryd.zeroValue5
  t9 := Tryd.underlying9
  a9 := Tryd.isAgg9
  z9 := Tryd.sizeOf9
  v9 := Tryd.zeroValue9
  t21 := Tryd.underlying21
  a21 := Tryd.isAgg21
  z21 := Tryd.sizeOf21
  v21 := Tryd.zeroValue21
  t46 := Tryd.underlying93
  a46 := Tryd.isAgg93
  z46 := Tryd.sizeOf93
  v46 := Tryd.zeroValue93
  t119 := Tryd.underlying120
  a119 := Tryd.isAgg120
  z119 := Tryd.sizeOf120
  t138 := Tryd.underlying122
  a138 := Tryd.isAgg122
  z138 := Tryd.sizeOf122
  v138 := Tryd.zeroValue122
  t139 := Tryd.underlying123
  a139 := Tryd.isAgg123
  z139 := Tryd.sizeOf123
  v139 := Tryd.zeroValue123
  g3 := by kernel_rfl
  g4 := by kernel_rfl }
open Go.RowKit Go.Lib in
theorem Tryd.utf8_decodeRuneInStringSlow (s : ByteArray) (w : World) (hT : Lib.Utf8Tabs 3 4 w) :
    Calls Tryd.prog 66 #[.string s] w fun e w' => e = .returned (.tuple #[.int .i32 (Lib.decodeGo s).1, .int .i64 (Lib.decodeGo s).2]) ∧ Below w.heap.size w w' := Any.utf8_decodeRuneInStringSlow Tryd.lays260 s w hT
open Go.RowKit Go.Lib in
theorem Tryd.utf8_DecodeRuneInString (s : ByteArray) (w : World) (hT : Lib.Utf8Tabs 3 4 w) :
    Calls Tryd.prog 50 #[.string s] w fun e w' => e = .returned (.tuple #[.int .i32 (Lib.decodeGo s).1, .int .i64 (Lib.decodeGo s).2]) ∧ Below w.heap.size w w' := Any.utf8_DecodeRuneInString Tryd.lays197 s w hT
def Tryd.lays274_ren : Go.Shelf.Ren := ⟨fun | 274 => 74 | n => n, fun | 21 => 21 | 162 => 117 | 160 => 115 | 3 => 3 | 4 => 4 | 46 => 93 | 0 => 0 | 208 => 130 | 51 => 102 | 206 => 128 | n => n, fun | n => n⟩
theorem Tryd.lays274 : Go.Proofs.Lays.n274 Tryd.prog Tryd.lays274_ren := {
  mixed := by kernel_rfl
  f274 := Tryd.func74.trans (congrArg some (by kernel_rfl))
  t0 := Tryd.underlying0
  a0 := Tryd.isAgg0
  z0 := Tryd.sizeOf0
  v0 := Tryd.zeroValue0
  t3 := Tryd.underlying3
  a3 := Tryd.isAgg3
  z3 := Tryd.sizeOf3
  v3 := Tryd.zeroValue3
  t4 := Tryd.underlying4
  a4 := Tryd.isAgg4
  z4 := Tryd.sizeOf4
  v4 := Tryd.zeroValue4
  t21 := Tryd.underlying21
  a21 := Tryd.isAgg21
  z21 := Tryd.sizeOf21
  v21 := Tryd.zeroValue21
  t46 := Tryd.underlying93
  a46 := Tryd.isAgg93
  z46 := Tryd.sizeOf93
  v46 := Tryd.zeroValue93
  t51 := Tryd.underlying102
  a51 := Tryd.isAgg102
  z51 := Tryd.sizeOf102
  v51 := Tryd.zeroValue102
  t160 := Tryd.underlying115
  a160 := Tryd.isAgg115
  z160 := Tryd.sizeOf115
  v160 := Tryd.zeroValue115
  t162 := Tryd.underlying117
  a162 := Tryd.isAgg117
  z162 := Tryd.sizeOf117
  v162 := Tryd.zeroValue117
  t208 := Tryd.underlying130
  a208 := Tryd.isAgg130
  z208 := Tryd.sizeOf130
  v208 := Tryd.zeroValue130 }
open Go.RowKit Go.Lib in
theorem Tryd.unicode_lookupCaseRange (T : Array CaseRow) (R oR cap : Nat) (r : Int) (w : World) (hT : CaseTab R oR T w) (hok : CaseOk T) (hn : T.size ≤ 1000000000) :
    Calls Tryd.prog 74 #[.int .i32 r, .slice (some ⟨R, oR, none⟩) T.size cap] w fun e w' =>
      e = .returned (match lookupIdx T r (T.size + 1) 0 T.size with | some i => .pointer (some ⟨R, oR + i * 5, none⟩) | none => .pointer none) ∧ w' = w := Any.unicode_lookupCaseRange Tryd.lays274 T R oR cap r w hT hok hn
def Tryd.lays275_ren : Go.Shelf.Ren := ⟨fun | 275 => 75 | n => n, fun | 3 => 3 | 21 => 21 | 160 => 115 | 0 => 0 | 208 => 130 | 206 => 128 | 4 => 4 | 51 => 102 | n => n, fun | n => n⟩
theorem Tryd.lays275 : Go.Proofs.Lays.n275 Tryd.prog Tryd.lays275_ren := {
  mixed := by kernel_rfl
  f275 := Tryd.func75.trans (congrArg some (by kernel_rfl))
  t0 := Tryd.underlying0
  a0 := Tryd.isAgg0
  z0 := Tryd.sizeOf0
  v0 := Tryd.zeroValue0
  t3 := Tryd.underlying3
  a3 := Tryd.isAgg3
  z3 := Tryd.sizeOf3
  v3 := Tryd.zeroValue3
  t4 := Tryd.underlying4
  a4 := Tryd.isAgg4
  z4 := Tryd.sizeOf4
  v4 := Tryd.zeroValue4
  t21 := Tryd.underlying21
  a21 := Tryd.isAgg21
  z21 := Tryd.sizeOf21
  v21 := Tryd.zeroValue21
  t51 := Tryd.underlying102
  a51 := Tryd.isAgg102
  z51 := Tryd.sizeOf102
  v51 := Tryd.zeroValue102
  t160 := Tryd.underlying115
  a160 := Tryd.isAgg115
  z160 := Tryd.sizeOf115
  v160 := Tryd.zeroValue115
  t206 := Tryd.underlying128
  a206 := Tryd.isAgg128
  z206 := Tryd.sizeOf128
  v206 := Tryd.zeroValue128
  t208 := Tryd.underlying130
  a208 := Tryd.isAgg130
  z208 := Tryd.sizeOf130
  v208 := Tryd.zeroValue130 }
open Go.RowKit Go.Lib in
theorem Tryd.unicode_convertCase (c : Nat) (hc : c < 3) (r : Int) (A o : Nat) (x : CaseRow) (w : World) (hlo : (x.1 : Int) ≤ r) (hhi : r ≤ (x.2.1 : Int)) (hH : x.2.1 < 2147483647) (c0 : w.cell? ⟨A, o, none⟩ = some (.int .u32 x.1)) (cD : w.cell? ⟨A, o + 2 + c, none⟩ = some (.int .i32 (x.delta c))) :
    Calls Tryd.prog 75 #[.int .i64 c, .int .i32 r, .pointer (some ⟨A, o, none⟩)] w fun e w' => e = .returned (.int .i32 (wrap32 (convertR c r x))) ∧ ∃ q, w' = w.drewN q := Any.unicode_convertCase Tryd.lays275 c hc r A o x w hlo hhi hH c0 cD
def Tryd.lays270_ren : Go.Shelf.Ren := ⟨fun | 270 => 55 | n => n, fun | 70 => 74 | 3 => 3 | 0 => 0 | 72 => 76 | 37 => 64 | 5 => 5 | n => n, fun | n => n⟩
theorem Tryd.lays270 : Go.Proofs.Lays.n270 Tryd.prog Tryd.lays270_ren := {
  mixed := by kernel_rfl
  f270 := Tryd.func55.trans (congrArg some (by kernel_rfl))
  t0 := Tryd.underlying0
  a0 := Tryd.isAgg0
  z0 := Tryd.sizeOf0
  v0 := Tryd.zeroValue0
  t3 := Tryd.underlying3
  a3 := Tryd.isAgg3
  z3 := Tryd.sizeOf3
  v3 := Tryd.zeroValue3
  t37 := Tryd.underlying64
  a37 := Tryd.isAgg64
  z37 := Tryd.sizeOf64
  v37 := Tryd.zeroValue64
  t70 := Tryd.underlying74
  a70 := Tryd.isAgg74
  z70 := Tryd.sizeOf74
  v70 := Tryd.zeroValue74
  t72 := Tryd.underlying76
  a72 := Tryd.isAgg76
  z72 := Tryd.sizeOf76
  v72 := Tryd.zeroValue76 }
open Go.RowKit Go.Lib in
theorem Tryd.Builder_Cap_cell (b : Nat) (p : Option Addr) (n cap : Nat) (w : World) (c1 : w.cell? ⟨b, 1, none⟩ = some (.slice p n cap)) :
    Calls Tryd.prog 55 #[.pointer (some ⟨b, 0, none⟩)] w fun e w' => e = .returned (.int .i64 cap) ∧ w' = w := Any.Builder_Cap_cell Tryd.lays270 b p n cap w c1
def Tryd.lays230_ren : Go.Shelf.Ren := ⟨fun | 230 => 34 | 197 => 50 | 118 => 51 | 165 => 52 | 166 => 53 | 168 => 54 | 270 => 55 | 167 => 56 | 169 => 57 | 260 => 66 | 240 => 67 | 241 => 68 | 242 => 69 | 276 => 77 | 277 => 78 | 278 => 79 | n => n, fun | 107 => 62 | 9 => 9 | 72 => 76 | 0 => 0 | 4 => 4 | 3 => 3 | 21 => 21 | 105 => 77 | 76 => 83 | 5 => 5 | 75 => 82 | 70 => 74 | 20 => 20 | 37 => 64 | 127 => 101 | 119 => 120 | 46 => 93 | 139 => 123 | 138 => 122 | 164 => 124 | 51 => 102 | 80 => 88 | n => n, fun | 3 => 3 | 4 => 4 | n => n⟩
theorem Tryd.lays230 : Go.Proofs.Lays.n230 Tryd.prog Tryd.lays230_ren := {
  mixed := by kernel_rfl
  f118 := Tryd.func51.trans (congrArg some (by kernel_rfl))
  f165 := Tryd.func52.trans (congrArg some (by kernel_rfl))
  f166 := Tryd.func53.trans (congrArg some (by kernel_rfl))
  f167 := Tryd.func56.trans (congrArg some (by kernel_rfl))
  f168 := Tryd.func54.trans (congrArg some (by kernel_rfl))
  f169 := Tryd.func57.trans (congrArg some (by kernel_rfl))
  f197 := Tryd.func50.trans (congrArg some (by kernel_rfl))
  f230 := Tryd.func34.trans (congrArg some (by kernel_rfl))
  f240 := Tryd.func67.trans (congrArg some (by kernel_rfl))
  f241 := Tryd.func68.trans (congrArg some (by kernel_rfl))
  f242 := Tryd.func69.trans (congrArg some (by kernel_rfl))
  f260 := Tryd.func66.trans (congrArg some (by kernel_rfl))
  f270 := Tryd.func55.trans (congrArg some (by kernel_rfl))
  f276 := Tryd.func77.trans (congrArg some (by kernel_rfl))
  f277 := Tryd.func78.trans (congrArg some (by kernel_rfl))
  f278 := Tryd.func79.trans (congrArg some (by kernel_rfl))
  t0 := Tryd.underlying0
  a0 := Tryd.isAgg0
  z0 := Tryd.sizeOf0
  v0 := Tryd.zeroValue0
  t3 := Tryd.underlying3
  a3 := Tryd.isAgg3
  z3 := Tryd.sizeOf3
  v3 := Tryd.zeroValue3
  t4 := Tryd.underlying4
  a4 := Tryd.isAgg4
  z4 := Tryd.sizeOf4
  v4 := Tryd.zeroValue4
  t5 := Tryd.underlying5
  a5 := Tryd.isAgg5
  z5 := Tryd.sizeOf5
  v5 := Tryd.zeroValue5
  t9 := Tryd.underlying9
  a9 := Tryd.isAgg9
  z9 := Tryd.sizeOf9
  v9 := Tryd.zeroValue9
  t20 := Tryd.underlying20
  a20 := Tryd.isAgg20
  z20 := Tryd.sizeOf20
  v20 := Tryd.zeroValue20
  t21 := Tryd.underlying21
  a21 := Tryd.isAgg21
  z21 := Tryd.sizeOf21
  v21 := Tryd.zeroValue21
  t37 := Tryd.underlying64
  a37 := Tryd.isAgg64
  z37 := Tryd.sizeOf64
  v37 := Tryd.zeroValue64
  t46 := Tryd.underlying93
  a46 := Tryd.isAgg93
  z46 := Tryd.sizeOf93
  v46 := Tryd.zeroValue93
  t51 := Tryd.underlying102
  a51 := Tryd.isAgg102
  z51 := Tryd.sizeOf102
  v51 := Tryd.zeroValue102
  t70 := Tryd.underlying74
  a70 := Tryd.isAgg74
  z70 := Tryd.sizeOf74
  v70 := Tryd.zeroValue74
  t72 := Tryd.underlying76
  a72 := Tryd.isAgg76
  z72 := Tryd.sizeOf76
  v72 := Tryd.zeroValue76
  t75 := Tryd.underlying82
  a75 := Tryd.isAgg82
  z75 := Tryd.sizeOf82
  v75 := Tryd.zeroValue82
  t76 := Tryd.underlying83
  a76 := Tryd.isAgg83
  z76 := Tryd.sizeOf83
  v76 := Tryd.zeroValue83
  t105 := Tryd.underlying77
  a105 := Tryd.isAgg77
  z105 := Tryd.sizeOf77
  v105 := Tryd.zeroValue77
  t107 := Tryd.underlying62
  a107 := Tryd.isAgg62
  z107 := Tryd.sizeOf62
  v107 := Tryd.zeroValue62
  t119 := Tryd.underlying120
  a119 := Tryd.isAgg120
  z119 := Tryd.sizeOf120
  t127 := Tryd.underlying101
  a127 := Tryd.isAgg101
  z127 := Tryd.sizeOf101
  v127 := Tryd.zeroValue101
  t138 := Tryd.underlying122
  a138 := Tryd.isAgg122
  z138 := Tryd.sizeOf122
  v138 := Tryd.zeroValue122
  t139 := Tryd.underlying123
  a139 := Tryd.isAgg123
  z139 := Tryd.sizeOf123
  v139 := Tryd.zeroValue123
  t164 := Tryd.underlying124
  a164 := Tryd.isAgg124
  z164 := Tryd.sizeOf124
  v164 := Tryd.zeroValue124
  g3 := by kernel_rfl
  g4 := by kernel_rfl }
theorem Tryd.Builder_Extra_230 : Builder.Extra Tryd.prog Tryd.lays230_ren := {
  sizeBuilder := by kernel_rfl
  liesBuilder := by kernel_rfl
  t5 := Tryd.underlying5
  a5 := Tryd.isAgg5
  z5 := Tryd.sizeOf5
  v5 := Tryd.zeroValue5
  infoByte := by kernel_rfl
  cellsByte := by kernel_rfl
  sizeByte := by kernel_rfl
  neB5 := by decide }
open Go.RowKit Go.Lib in
theorem Tryd.strings_Map_runes (g : Nat) (lb : Array Value) (eg : ∀ args w, (callFunc g args).run Tryd.prog w = .ok (.enter g args) w) (f : Int → Int) (s : ByteArray) (w : World) (hs : s.size < 35184372088832) (hf : MapAtRunes Tryd.prog g lb f w) (hnn : ∀ x : Nat, x ≤ 1114111 → 0 ≤ f x ∧ f x ≤ 2147483647) (hT : Lib.Utf8Tabs 3 4 w) :
    Calls Tryd.prog 34 #[.func (.func g) #[] lb, .string s] w fun e w' => e = .returned (.string ⟨(Lib.mapD f s.data.toList).toArray⟩) ∧ Below w.heap.size w w' := Any.strings_Map_runes Tryd.lays230 Tryd.Builder_Extra_230 g lb eg f s w hs hf hnn hT
end Go.Proofs
