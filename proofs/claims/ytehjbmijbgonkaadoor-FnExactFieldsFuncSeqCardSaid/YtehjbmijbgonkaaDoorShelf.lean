/-
  The contracts of the library functions that this seat reaches, laid at the seat numbers by the kit tools. No condition beyond those written at each.
-/
import Derived.Shelf.Small.Utf8
import Derived.Shelf.GgClosure.StringsIndexFunc
import Derived.Shelf.GgClosure.StringsTrimFunc
import Derived.Shelf.Unicode.DecodeSlow
import Derived.Shelf.Unicode.DecodeAny
import Derived.Shelf.Unicode.DecodeLast
import Derived.Test.YtehjbmijbgonkaaDoorProg
namespace Go.Proofs
open Go.Shelf
def Tryd.lays120_ren : Go.Shelf.Ren := ⟨fun | 120 => 61 | n => n, fun | 5 => 5 | 4 => 4 | n => n, fun | n => n⟩
theorem Tryd.lays120 : Go.Proofs.Lays.n120 Tryd.prog Tryd.lays120_ren := {
  mixed := by kernel_rfl
  f120 := Tryd.func61.trans (congrArg some (by kernel_rfl))
  t4 := Tryd.underlying4
  a4 := Tryd.isAgg4
  z4 := Tryd.sizeOf4
  v4 := Tryd.zeroValue4
  t5 := Tryd.underlying5
  a5 := Tryd.isAgg5
  z5 := Tryd.sizeOf5
  v5 := Tryd.zeroValue5 }
theorem Tryd.utf8_RuneStart (b : Int) (w : World) (h0 : 0 ≤ b) (h1 : b < 256) :
    Calls Tryd.prog 61 #[.int .u8 b] w fun e w' => e = .returned (.bool (Lib.runeStart b)) ∧ w' = w := Any.utf8_RuneStart Tryd.lays120 b w h0 h1
def Tryd.lays315_ren : Go.Shelf.Ren := ⟨fun | 315 => 53 | n => n, fun | 9 => 9 | 40 => 44 | 4 => 4 | 3 => 3 | 0 => 0 | 21 => 21 | n => n, fun | n => n⟩
theorem Tryd.lays315 : Go.Proofs.Lays.n315 Tryd.prog Tryd.lays315_ren := {
  mixed := by kernel_rfl
  f315 := Tryd.func53.trans (congrArg some (by kernel_rfl))
  t0 := Tryd.underlying0
  a0 := Tryd.isAgg0
  z0 := Tryd.sizeOf0
  v0 := Tryd.zeroValue0
  t3 := Tryd.underlying3
  a3 := Tryd.isAgg3
  z3 := Tryd.sizeOf3
  v3 := Tryd.zeroValue3
  t4 := Tryd.underlying4
  a4 := Tryd.isAgg4
  z4 := Tryd.sizeOf4
  v4 := Tryd.zeroValue4
  t9 := Tryd.underlying9
  a9 := Tryd.isAgg9
  z9 := Tryd.sizeOf9
  v9 := Tryd.zeroValue9
  t21 := Tryd.underlying21
  a21 := Tryd.isAgg21
  z21 := Tryd.sizeOf21
  v21 := Tryd.zeroValue21
  t40 := Tryd.underlying44
  a40 := Tryd.isAgg44
  z40 := Tryd.sizeOf44
  v40 := Tryd.zeroValue44 }
open Go.RowKit Go.Lib in
theorem Tryd.strings_indexFunc (g : Nat) (lb : Array Value) (eg : ∀ args w, (callFunc g args).run Tryd.prog w = .ok (.enter g args) w) (p : Nat → Bool) (truth : Bool) (s : ByteArray) (w : World) (hp : PredAt Tryd.prog g lb encR p w) :
    Calls Tryd.prog 53 #[.string s, .func (.func g) #[] lb, .bool truth] w fun e w' => e = .returned (.int .i64 (Lib.idxFunc p truth s)) ∧ Below w.heap.size w w' := Any.strings_indexFunc Tryd.lays315 g lb eg p truth s w hp
def Tryd.lays273_ren : Go.Shelf.Ren := ⟨fun | 273 => 51 | 271 => 58 | 120 => 61 | 197 => 52 | 260 => 59 | n => n, fun | 9 => 9 | 40 => 44 | 4 => 4 | 3 => 3 | 105 => 59 | 21 => 21 | 5 => 5 | 119 => 68 | 0 => 0 | 46 => 69 | 139 => 72 | 138 => 71 | n => n, fun | 3 => 0 | 4 => 1 | n => n⟩
theorem Tryd.lays273 : Go.Proofs.Lays.n273 Tryd.prog Tryd.lays273_ren := {
  mixed := by kernel_rfl
  f120 := Tryd.func61.trans (congrArg some (by kernel_rfl))
  f197 := Tryd.func52.trans (congrArg some (by kernel_rfl))
  f260 := Tryd.func59.trans (congrArg some (by kernel_rfl))
  f271 := Tryd.func58.trans (congrArg some (by kernel_rfl))
  f273 := Tryd.func51.trans (congrArg some (by kernel_rfl))
  t0 := Tryd.underlying0
  a0 := Tryd.isAgg0
  z0 := Tryd.sizeOf0
  v0 := Tryd.zeroValue0
  t3 := Tryd.underlying3
  a3 := Tryd.isAgg3
  z3 := Tryd.sizeOf3
  v3 := Tryd.zeroValue3
  t4 := Tryd.underlying4
  a4 := Tryd.isAgg4
  z4 := Tryd.sizeOf4
  v4 := Tryd.zeroValue4
  t5 := Tryd.underlying5
  a5 := Tryd.isAgg5
  z5 := Tryd.sizeOf5
  v5 := Tryd.zeroValue5
  t9 := Tryd.underlying9
  a9 := Tryd.isAgg9
  z9 := Tryd.sizeOf9
  v9 := Tryd.zeroValue9
  t21 := Tryd.underlying21
  a21 := Tryd.isAgg21
  z21 := Tryd.sizeOf21
  v21 := Tryd.zeroValue21
  t40 := Tryd.underlying44
  a40 := Tryd.isAgg44
  z40 := Tryd.sizeOf44
  v40 := Tryd.zeroValue44
  t46 := Tryd.underlying69
  a46 := Tryd.isAgg69
  z46 := Tryd.sizeOf69
  v46 := Tryd.zeroValue69
  t105 := Tryd.underlying59
  a105 := Tryd.isAgg59
  z105 := Tryd.sizeOf59
  v105 := Tryd.zeroValue59
  t119 := Tryd.underlying68
  a119 := Tryd.isAgg68
  z119 := Tryd.sizeOf68
  t138 := Tryd.underlying71
  a138 := Tryd.isAgg71
  z138 := Tryd.sizeOf71
  v138 := Tryd.zeroValue71
  t139 := Tryd.underlying72
  a139 := Tryd.isAgg72
  z139 := Tryd.sizeOf72
  v139 := Tryd.zeroValue72
  g3 := by kernel_rfl
  g4 := by kernel_rfl }
open Go.RowKit Go.Lib in
theorem Tryd.strings_lastIndexFunc (g : Nat) (lb : Array Value) (eg : ∀ args w, (callFunc g args).run Tryd.prog w = .ok (.enter g args) w) (p : Nat → Bool) (truth : Bool) (s : ByteArray) (w : World) (hs : s.size ≤ 9223372036854775807) (hT : Lib.Utf8Tabs 0 1 w) (hp : PredAt Tryd.prog g lb encR p w) :
    Calls Tryd.prog 51 #[.string s, .func (.func g) #[] lb, .bool truth] w fun e w' => e = .returned (.int .i64 (Lib.lastIdxFunc p truth s)) ∧ Below w.heap.size w w' := Any.strings_lastIndexFunc Tryd.lays273 g lb eg p truth s w hs hT hp
def Tryd.lays272_ren : Go.Shelf.Ren := ⟨fun | 272 => 44 | 315 => 53 | n => n, fun | 9 => 9 | 40 => 44 | 4 => 4 | 3 => 3 | 0 => 0 | 21 => 21 | n => n, fun | n => n⟩
theorem Tryd.lays272 : Go.Proofs.Lays.n272 Tryd.prog Tryd.lays272_ren := {
  mixed := by kernel_rfl
  f272 := Tryd.func44.trans (congrArg some (by kernel_rfl))
  f315 := Tryd.func53.trans (congrArg some (by kernel_rfl))
  t0 := Tryd.underlying0
  a0 := Tryd.isAgg0
  z0 := Tryd.sizeOf0
  v0 := Tryd.zeroValue0
  t3 := Tryd.underlying3
  a3 := Tryd.isAgg3
  z3 := Tryd.sizeOf3
  v3 := Tryd.zeroValue3
  t4 := Tryd.underlying4
  a4 := Tryd.isAgg4
  z4 := Tryd.sizeOf4
  v4 := Tryd.zeroValue4
  t9 := Tryd.underlying9
  a9 := Tryd.isAgg9
  z9 := Tryd.sizeOf9
  v9 := Tryd.zeroValue9
  t21 := Tryd.underlying21
  a21 := Tryd.isAgg21
  z21 := Tryd.sizeOf21
  v21 := Tryd.zeroValue21
  t40 := Tryd.underlying44
  a40 := Tryd.isAgg44
  z40 := Tryd.sizeOf44
  v40 := Tryd.zeroValue44 }
open Go.RowKit Go.Lib in
theorem Tryd.strings_TrimLeftFunc (g : Nat) (lb : Array Value) (eg : ∀ args w, (callFunc g args).run Tryd.prog w = .ok (.enter g args) w) (p : Nat → Bool) (s : ByteArray) (w : World) (hp : PredAt Tryd.prog g lb encR p w) :
    Calls Tryd.prog 44 #[.string s, .func (.func g) #[] lb] w fun e w' => e = .returned (.string (Lib.trimLeftF p s)) ∧ Below w.heap.size w w' := Any.strings_TrimLeftFunc Tryd.lays272 g lb eg p s w hp
def Tryd.lays238_ren : Go.Shelf.Ren := ⟨fun | 238 => 37 | 273 => 51 | 197 => 52 | 271 => 58 | 260 => 59 | 120 => 61 | n => n, fun | 9 => 9 | 40 => 44 | 4 => 4 | 3 => 3 | 105 => 59 | 21 => 21 | 5 => 5 | 119 => 68 | 0 => 0 | 46 => 69 | 139 => 72 | 138 => 71 | n => n, fun | 3 => 0 | 4 => 1 | n => n⟩
theorem Tryd.lays238 : Go.Proofs.Lays.n238 Tryd.prog Tryd.lays238_ren := {
  mixed := by kernel_rfl
  f120 := Tryd.func61.trans (congrArg some (by kernel_rfl))
  f197 := Tryd.func52.trans (congrArg some (by kernel_rfl))
  f238 := Tryd.func37.trans (congrArg some (by kernel_rfl))
  f260 := Tryd.func59.trans (congrArg some (by kernel_rfl))
  f271 := Tryd.func58.trans (congrArg some (by kernel_rfl))
  f273 := Tryd.func51.trans (congrArg some (by kernel_rfl))
  t0 := Tryd.underlying0
  a0 := Tryd.isAgg0
  z0 := Tryd.sizeOf0
  v0 := Tryd.zeroValue0
  t3 := Tryd.underlying3
  a3 := Tryd.isAgg3
  z3 := Tryd.sizeOf3
  v3 := Tryd.zeroValue3
  t4 := Tryd.underlying4
  a4 := Tryd.isAgg4
  z4 := Tryd.sizeOf4
  v4 := Tryd.zeroValue4
  t5 := Tryd.underlying5
  a5 := Tryd.isAgg5
  z5 := Tryd.sizeOf5
  v5 := Tryd.zeroValue5
  t9 := Tryd.underlying9
  a9 := Tryd.isAgg9
  z9 := Tryd.sizeOf9
  v9 := Tryd.zeroValue9
  t21 := Tryd.underlying21
  a21 := Tryd.isAgg21
  z21 := Tryd.sizeOf21
  v21 := Tryd.zeroValue21
  t40 := Tryd.underlying44
  a40 := Tryd.isAgg44
  z40 := Tryd.sizeOf44
  v40 := Tryd.zeroValue44
  t46 := Tryd.underlying69
  a46 := Tryd.isAgg69
  z46 := Tryd.sizeOf69
  v46 := Tryd.zeroValue69
  t105 := Tryd.underlying59
  a105 := Tryd.isAgg59
  z105 := Tryd.sizeOf59
  v105 := Tryd.zeroValue59
  t119 := Tryd.underlying68
  a119 := Tryd.isAgg68
  z119 := Tryd.sizeOf68
  t138 := Tryd.underlying71
  a138 := Tryd.isAgg71
  z138 := Tryd.sizeOf71
  v138 := Tryd.zeroValue71
  t139 := Tryd.underlying72
  a139 := Tryd.isAgg72
  z139 := Tryd.sizeOf72
  v139 := Tryd.zeroValue72
  g3 := by kernel_rfl
  g4 := by kernel_rfl }
open Go.RowKit Go.Lib in
theorem Tryd.strings_TrimRightFunc (g : Nat) (lb : Array Value) (eg : ∀ args w, (callFunc g args).run Tryd.prog w = .ok (.enter g args) w) (p : Nat → Bool) (s : ByteArray) (w : World) (hs : s.size ≤ 9223372036854775807) (hT : Lib.Utf8Tabs 0 1 w) (hp : PredAt Tryd.prog g lb encR p w) :
    Calls Tryd.prog 37 #[.string s, .func (.func g) #[] lb] w fun e w' => e = .returned (.string (Lib.trimRightF p s)) ∧ Below w.heap.size w w' := Any.strings_TrimRightFunc Tryd.lays238 g lb eg p s w hs hT hp
def Tryd.lays237_ren : Go.Shelf.Ren := ⟨fun | 237 => 43 | 272 => 44 | 238 => 37 | 315 => 53 | 273 => 51 | 197 => 52 | 271 => 58 | 260 => 59 | 120 => 61 | n => n, fun | 9 => 9 | 40 => 44 | 4 => 4 | 3 => 3 | 105 => 59 | 21 => 21 | 0 => 0 | 5 => 5 | 119 => 68 | 46 => 69 | 139 => 72 | 138 => 71 | n => n, fun | 3 => 0 | 4 => 1 | n => n⟩
theorem Tryd.lays237 : Go.Proofs.Lays.n237 Tryd.prog Tryd.lays237_ren := {
  mixed := by kernel_rfl
  f120 := Tryd.func61.trans (congrArg some (by kernel_rfl))
  f197 := Tryd.func52.trans (congrArg some (by kernel_rfl))
  f237 := Tryd.func43.trans (congrArg some (by kernel_rfl))
  f238 := Tryd.func37.trans (congrArg some (by kernel_rfl))
  f260 := Tryd.func59.trans (congrArg some (by kernel_rfl))
  f271 := Tryd.func58.trans (congrArg some (by kernel_rfl))
  f272 := Tryd.func44.trans (congrArg some (by kernel_rfl))
  f273 := Tryd.func51.trans (congrArg some (by kernel_rfl))
  f315 := Tryd.func53.trans (congrArg some (by kernel_rfl))
  t0 := Tryd.underlying0
  a0 := Tryd.isAgg0
  z0 := Tryd.sizeOf0
  v0 := Tryd.zeroValue0
  t3 := Tryd.underlying3
  a3 := Tryd.isAgg3
  z3 := Tryd.sizeOf3
  v3 := Tryd.zeroValue3
  t4 := Tryd.underlying4
  a4 := Tryd.isAgg4
  z4 := Tryd.sizeOf4
  v4 := Tryd.zeroValue4
  t5 := Tryd.underlying5
  a5 := Tryd.isAgg5
  z5 := Tryd.sizeOf5
  v5 := Tryd.zeroValue5
  t9 := Tryd.underlying9
  a9 := Tryd.isAgg9
  z9 := Tryd.sizeOf9
  v9 := Tryd.zeroValue9
  t21 := Tryd.underlying21
  a21 := Tryd.isAgg21
  z21 := Tryd.sizeOf21
  v21 := Tryd.zeroValue21
  t40 := Tryd.underlying44
  a40 := Tryd.isAgg44
  z40 := Tryd.sizeOf44
  v40 := Tryd.zeroValue44
  t46 := Tryd.underlying69
  a46 := Tryd.isAgg69
  z46 := Tryd.sizeOf69
  v46 := Tryd.zeroValue69
  t105 := Tryd.underlying59
  a105 := Tryd.isAgg59
  z105 := Tryd.sizeOf59
  v105 := Tryd.zeroValue59
  t119 := Tryd.underlying68
  a119 := Tryd.isAgg68
  z119 := Tryd.sizeOf68
  t138 := Tryd.underlying71
  a138 := Tryd.isAgg71
  z138 := Tryd.sizeOf71
  v138 := Tryd.zeroValue71
  t139 := Tryd.underlying72
  a139 := Tryd.isAgg72
  z139 := Tryd.sizeOf72
  v139 := Tryd.zeroValue72
  g3 := by kernel_rfl
  g4 := by kernel_rfl }
open Go.RowKit Go.Lib in
theorem Tryd.strings_TrimFunc (g : Nat) (lb : Array Value) (eg : ∀ args w, (callFunc g args).run Tryd.prog w = .ok (.enter g args) w) (p : Nat → Bool) (s : ByteArray) (w : World) (hs : s.size ≤ 9223372036854775807) (hT : Lib.Utf8Tabs 0 1 w) (hp : PredAt Tryd.prog g lb encR p w) :
    Calls Tryd.prog 43 #[.string s, .func (.func g) #[] lb] w fun e w' => e = .returned (.string (Lib.trimF p s)) ∧ Below w.heap.size w w' := Any.strings_TrimFunc Tryd.lays237 g lb eg p s w hs hT hp
def Tryd.lays260_ren : Go.Shelf.Ren := ⟨fun | 260 => 59 | n => n, fun | 9 => 9 | 21 => 21 | 3 => 3 | 4 => 4 | 5 => 5 | 119 => 68 | 0 => 0 | 46 => 69 | 139 => 72 | 138 => 71 | n => n, fun | 3 => 0 | 4 => 1 | n => n⟩
theorem Tryd.lays260 : Go.Proofs.Lays.n260 Tryd.prog Tryd.lays260_ren := {
  mixed := by kernel_rfl
  f260 := Tryd.func59.trans (congrArg some (by kernel_rfl))
  t0 := Tryd.underlying0
  a0 := Tryd.isAgg0
  z0 := Tryd.sizeOf0
  v0 := Tryd.zeroValue0
  t3 := Tryd.underlying3
  a3 := Tryd.isAgg3
  z3 := Tryd.sizeOf3
  v3 := Tryd.zeroValue3
  t4 := Tryd.underlying4
  a4 := Tryd.isAgg4
  z4 := Tryd.sizeOf4
  v4 := Tryd.zeroValue4
  t5 := Tryd.underlying5
  a5 := Tryd.isAgg5
  z5 := Tryd.sizeOf5
  v5 := Tryd.zeroValue5
  t9 := Tryd.underlying9
  a9 := Tryd.isAgg9
  z9 := Tryd.sizeOf9
  v9 := Tryd.zeroValue9
  t21 := Tryd.underlying21
  a21 := Tryd.isAgg21
  z21 := Tryd.sizeOf21
  v21 := Tryd.zeroValue21
  t46 := Tryd.underlying69
  a46 := Tryd.isAgg69
  z46 := Tryd.sizeOf69
  v46 := Tryd.zeroValue69
  t119 := Tryd.underlying68
  a119 := Tryd.isAgg68
  z119 := Tryd.sizeOf68
  t138 := Tryd.underlying71
  a138 := Tryd.isAgg71
  z138 := Tryd.sizeOf71
  v138 := Tryd.zeroValue71
  t139 := Tryd.underlying72
  a139 := Tryd.isAgg72
  z139 := Tryd.sizeOf72
  v139 := Tryd.zeroValue72
  g3 := by kernel_rfl
  g4 := by kernel_rfl }
open Go.RowKit Go.Lib in
theorem Tryd.utf8_decodeRuneInStringSlow (s : ByteArray) (w : World) (hT : Lib.Utf8Tabs 0 1 w) :
    Calls Tryd.prog 59 #[.string s] w fun e w' => e = .returned (.tuple #[.int .i32 (Lib.decodeGo s).1, .int .i64 (Lib.decodeGo s).2]) ∧ Below w.heap.size w w' := Any.utf8_decodeRuneInStringSlow Tryd.lays260 s w hT
def Tryd.lays197_ren : Go.Shelf.Ren := ⟨fun | 197 => 52 | 260 => 59 | n => n, fun | 9 => 9 | 21 => 21 | 3 => 3 | 4 => 4 | 5 => 5 | 105 => 59 | 119 => 68 | 0 => 0 | 46 => 69 | 139 => 72 | 138 => 71 | n => n, fun | 3 => 0 | 4 => 1 | n => n⟩
theorem Tryd.lays197 : Go.Proofs.Lays.n197 Tryd.prog Tryd.lays197_ren := {
  mixed := by kernel_rfl
  f197 := Tryd.func52.trans (congrArg some (by kernel_rfl))
  f260 := Tryd.func59.trans (congrArg some (by kernel_rfl))
  t0 := Tryd.underlying0
  a0 := Tryd.isAgg0
  z0 := Tryd.sizeOf0
  v0 := Tryd.zeroValue0
  t3 := Tryd.underlying3
  a3 := Tryd.isAgg3
  z3 := Tryd.sizeOf3
  v3 := Tryd.zeroValue3
  t4 := Tryd.underlying4
  a4 := Tryd.isAgg4
  z4 := Tryd.sizeOf4
  v4 := Tryd.zeroValue4
  t5 := Tryd.underlying5
  a5 := Tryd.isAgg5
  z5 := Tryd.sizeOf5
  v5 := Tryd.zeroValue5
  t9 := Tryd.underlying9
  a9 := Tryd.isAgg9
  z9 := Tryd.sizeOf9
  v9 := Tryd.zeroValue9
  t21 := Tryd.underlying21
  a21 := Tryd.isAgg21
  z21 := Tryd.sizeOf21
  v21 := Tryd.zeroValue21
  t46 := Tryd.underlying69
  a46 := Tryd.isAgg69
  z46 := Tryd.sizeOf69
  v46 := Tryd.zeroValue69
  t105 := Tryd.underlying59
  a105 := Tryd.isAgg59
  z105 := Tryd.sizeOf59
  v105 := Tryd.zeroValue59
  t119 := Tryd.underlying68
  a119 := Tryd.isAgg68
  z119 := Tryd.sizeOf68
  t138 := Tryd.underlying71
  a138 := Tryd.isAgg71
  z138 := Tryd.sizeOf71
  v138 := Tryd.zeroValue71
  t139 := Tryd.underlying72
  a139 := Tryd.isAgg72
  z139 := Tryd.sizeOf72
  v139 := Tryd.zeroValue72
  g3 := by kernel_rfl
  g4 := by kernel_rfl }
open Go.RowKit Go.Lib in
theorem Tryd.utf8_DecodeRuneInString (s : ByteArray) (w : World) (hT : Lib.Utf8Tabs 0 1 w) :
    Calls Tryd.prog 52 #[.string s] w fun e w' => e = .returned (.tuple #[.int .i32 (Lib.decodeGo s).1, .int .i64 (Lib.decodeGo s).2]) ∧ Below w.heap.size w w' := Any.utf8_DecodeRuneInString Tryd.lays197 s w hT
def Tryd.lays271_ren : Go.Shelf.Ren := ⟨fun | 271 => 58 | 120 => 61 | 197 => 52 | 260 => 59 | n => n, fun | 9 => 9 | 21 => 21 | 3 => 3 | 4 => 4 | 5 => 5 | 105 => 59 | 119 => 68 | 0 => 0 | 46 => 69 | 139 => 72 | 138 => 71 | n => n, fun | 3 => 0 | 4 => 1 | n => n⟩
theorem Tryd.lays271 : Go.Proofs.Lays.n271 Tryd.prog Tryd.lays271_ren := {
  mixed := by kernel_rfl
  f120 := Tryd.func61.trans (congrArg some (by kernel_rfl))
  f197 := Tryd.func52.trans (congrArg some (by kernel_rfl))
  f260 := Tryd.func59.trans (congrArg some (by kernel_rfl))
  f271 := Tryd.func58.trans (congrArg some (by kernel_rfl))
  t0 := Tryd.underlying0
  a0 := Tryd.isAgg0
  z0 := Tryd.sizeOf0
  v0 := Tryd.zeroValue0
  t3 := Tryd.underlying3
  a3 := Tryd.isAgg3
  z3 := Tryd.sizeOf3
  v3 := Tryd.zeroValue3
  t4 := Tryd.underlying4
  a4 := Tryd.isAgg4
  z4 := Tryd.sizeOf4
  v4 := Tryd.zeroValue4
  t5 := Tryd.underlying5
  a5 := Tryd.isAgg5
  z5 := Tryd.sizeOf5
  v5 := Tryd.zeroValue5
  t9 := Tryd.underlying9
  a9 := Tryd.isAgg9
  z9 := Tryd.sizeOf9
  v9 := Tryd.zeroValue9
  t21 := Tryd.underlying21
  a21 := Tryd.isAgg21
  z21 := Tryd.sizeOf21
  v21 := Tryd.zeroValue21
  t46 := Tryd.underlying69
  a46 := Tryd.isAgg69
  z46 := Tryd.sizeOf69
  v46 := Tryd.zeroValue69
  t105 := Tryd.underlying59
  a105 := Tryd.isAgg59
  z105 := Tryd.sizeOf59
  v105 := Tryd.zeroValue59
  t119 := Tryd.underlying68
  a119 := Tryd.isAgg68
  z119 := Tryd.sizeOf68
  t138 := Tryd.underlying71
  a138 := Tryd.isAgg71
  z138 := Tryd.sizeOf71
  v138 := Tryd.zeroValue71
  t139 := Tryd.underlying72
  a139 := Tryd.isAgg72
  z139 := Tryd.sizeOf72
  v139 := Tryd.zeroValue72
  g3 := by kernel_rfl
  g4 := by kernel_rfl }
open Go.RowKit Go.Lib in
theorem Tryd.utf8_DecodeLastRuneInString (s : ByteArray) (w : World) (hs : s.size ≤ 9223372036854775807) (hT : Lib.Utf8Tabs 0 1 w) :
    Calls Tryd.prog 58 #[.string s] w fun e w' => e = .returned (.tuple #[.int .i32 (Lib.decodeLastL s.data.toList).1, .int .i64 (Lib.decodeLastL s.data.toList).2]) ∧ Below w.heap.size w w' := Any.utf8_DecodeLastRuneInString Tryd.lays271 s w hs hT
end Go.Proofs
