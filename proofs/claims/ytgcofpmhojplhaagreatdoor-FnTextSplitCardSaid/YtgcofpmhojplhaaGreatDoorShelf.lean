/-
  DERIVED: THE SHELF's CONTRACTS AT THIS DUMP, IN PLAIN WORDS (tools/lay-plain.mjs out of 'TryzShelf.lean', which tools/lay-shelf.mjs wrote): THE SAME DECLARATIONS UNDER THE SAME NAMES: 'import', 'namespace', 'open', 'def', 'theorem' AND NOTHING ELSE: no command of the shelf's: FOR A HAND-IN. Each laying: the table of numbers ('.._ren') and one theorem, a field a fact of the dump's own or the kernel's comparison; each contract: ONE APPLICATION.
-/
import Derived.Shelf.Unicode.Decode
import Derived.Shelf.Unicode.DecodeSlow
import Derived.Shelf.Unicode.DecodeAny
import Derived.Shelf.Unicode.DecodeLast
import Derived.Shelf.Strings.FuncGrows
import Derived.Test.YtgcofpmhojplhaaGreatDoorProg
namespace Go.Proofs
open Go.Shelf
def Tryz.lays197_ren : Go.Shelf.Ren := ⟨fun | 197 => 84 | 260 => 100 | n => n, fun | 9 => 9 | 21 => 21 | 3 => 3 | 4 => 4 | 5 => 5 | 105 => 138 | 119 => 206 | 0 => 0 | 46 => 77 | 139 => 209 | 138 => 208 | n => n, fun | 3 => 1 | 4 => 2 | n => n⟩
theorem Tryz.lays197 : Go.Proofs.Lays.n197 Tryz.prog Tryz.lays197_ren := {
  mixed := by kernel_rfl
  f197 := Tryz.func84.trans (congrArg some (by kernel_rfl))
  f260 := Tryz.func100.trans (congrArg some (by kernel_rfl))
  t0 := Tryz.underlying0
  a0 := Tryz.isAgg0
  z0 := Tryz.sizeOf0
  v0 := Tryz.zeroValue0
  t3 := Tryz.underlying3
  a3 := Tryz.isAgg3
  z3 := Tryz.sizeOf3
  v3 := Tryz.zeroValue3
  t4 := Tryz.underlying4
  a4 := Tryz.isAgg4
  z4 := Tryz.sizeOf4
  v4 := Tryz.zeroValue4
  t5 := Tryz.underlying5
  a5 := Tryz.isAgg5
  z5 := Tryz.sizeOf5
  v5 := Tryz.zeroValue5
  t9 := Tryz.underlying9
  a9 := Tryz.isAgg9
  z9 := Tryz.sizeOf9
  v9 := Tryz.zeroValue9
  t21 := Tryz.underlying21
  a21 := Tryz.isAgg21
  z21 := Tryz.sizeOf21
  v21 := Tryz.zeroValue21
  t46 := Tryz.underlying77
  a46 := Tryz.isAgg77
  z46 := Tryz.sizeOf77
  v46 := Tryz.zeroValue77
  t105 := Tryz.underlying138
  a105 := Tryz.isAgg138
  z105 := Tryz.sizeOf138
  v105 := Tryz.zeroValue138
  t119 := Tryz.underlying206
  a119 := Tryz.isAgg206
  z119 := Tryz.sizeOf206
  t138 := Tryz.underlying208
  a138 := Tryz.isAgg208
  z138 := Tryz.sizeOf208
  v138 := Tryz.zeroValue208
  t139 := Tryz.underlying209
  a139 := Tryz.isAgg209
  z139 := Tryz.sizeOf209
  v139 := Tryz.zeroValue209
  g3 := by kernel_rfl
  g4 := by kernel_rfl }
open Go.RowKit Go.Lib in
/-- unicode/utf8.DecodeRuneInString: "DecodeRuneInString is like DecodeRune but its input is a string.": ("DecodeRune unpacks the first UTF-8 encoding in p and returns the rune and its width in bytes."): WHERE s BEGINS WITH AN ASCII BYTE x: (x, 1). (LAID: no walk: one application.) -/
theorem Tryz.utf8_DecodeRuneInString_ascii (s : ByteArray) (x : UInt8) (w : World) (h0 : s.data.toList[0]? = some x) (hx : x.toNat < 128) :
    Calls Tryz.prog 84 #[.string s] w fun e w' => e = .returned (.tuple #[.int .i32 x.toNat, .int .i64 1]) ∧ w' = w := Any.utf8_DecodeRuneInString_ascii Tryz.lays197 s x w h0 hx
def Tryz.lays260_ren : Go.Shelf.Ren := ⟨fun | 260 => 100 | n => n, fun | 9 => 9 | 21 => 21 | 3 => 3 | 4 => 4 | 5 => 5 | 119 => 206 | 0 => 0 | 46 => 77 | 139 => 209 | 138 => 208 | n => n, fun | 3 => 1 | 4 => 2 | n => n⟩
theorem Tryz.lays260 : Go.Proofs.Lays.n260 Tryz.prog Tryz.lays260_ren := {
  mixed := by kernel_rfl
  f260 := Tryz.func100.trans (congrArg some (by kernel_rfl))
  t0 := Tryz.underlying0
  a0 := Tryz.isAgg0
  z0 := Tryz.sizeOf0
  v0 := Tryz.zeroValue0
  t3 := Tryz.underlying3
  a3 := Tryz.isAgg3
  z3 := Tryz.sizeOf3
  v3 := Tryz.zeroValue3
  t4 := Tryz.underlying4
  a4 := Tryz.isAgg4
  z4 := Tryz.sizeOf4
  v4 := Tryz.zeroValue4
  t5 := Tryz.underlying5
  a5 := Tryz.isAgg5
  z5 := Tryz.sizeOf5
  v5 := Tryz.zeroValue5
  t9 := Tryz.underlying9
  a9 := Tryz.isAgg9
  z9 := Tryz.sizeOf9
  v9 := Tryz.zeroValue9
  t21 := Tryz.underlying21
  a21 := Tryz.isAgg21
  z21 := Tryz.sizeOf21
  v21 := Tryz.zeroValue21
  t46 := Tryz.underlying77
  a46 := Tryz.isAgg77
  z46 := Tryz.sizeOf77
  v46 := Tryz.zeroValue77
  t119 := Tryz.underlying206
  a119 := Tryz.isAgg206
  z119 := Tryz.sizeOf206
  t138 := Tryz.underlying208
  a138 := Tryz.isAgg208
  z138 := Tryz.sizeOf208
  v138 := Tryz.zeroValue208
  t139 := Tryz.underlying209
  a139 := Tryz.isAgg209
  z139 := Tryz.sizeOf209
  v139 := Tryz.zeroValue209
  g3 := by kernel_rfl
  g4 := by kernel_rfl }
open Go.RowKit Go.Lib in
theorem Tryz.utf8_decodeRuneInStringSlow (s : ByteArray) (w : World) (hT : Lib.Utf8Tabs 1 2 w) :
    Calls Tryz.prog 100 #[.string s] w fun e w' => e = .returned (.tuple #[.int .i32 (Lib.decodeGo s).1, .int .i64 (Lib.decodeGo s).2]) ∧ Below w.heap.size w w' := Any.utf8_decodeRuneInStringSlow Tryz.lays260 s w hT
open Go.RowKit Go.Lib in
/-- **unicode/utf8.DecodeRuneInString AT EVERY STRING.** (LAID: no walk: one application.) -/
theorem Tryz.utf8_DecodeRuneInString (s : ByteArray) (w : World) (hT : Lib.Utf8Tabs 1 2 w) :
    Calls Tryz.prog 84 #[.string s] w fun e w' => e = .returned (.tuple #[.int .i32 (Lib.decodeGo s).1, .int .i64 (Lib.decodeGo s).2]) ∧ Below w.heap.size w w' := Any.utf8_DecodeRuneInString Tryz.lays197 s w hT
def Tryz.lays271_ren : Go.Shelf.Ren := ⟨fun | 271 => 86 | 120 => 101 | 197 => 84 | 260 => 100 | n => n, fun | 9 => 9 | 21 => 21 | 3 => 3 | 4 => 4 | 5 => 5 | 105 => 138 | 119 => 206 | 0 => 0 | 46 => 77 | 139 => 209 | 138 => 208 | n => n, fun | 3 => 1 | 4 => 2 | n => n⟩
theorem Tryz.lays271 : Go.Proofs.Lays.n271 Tryz.prog Tryz.lays271_ren := {
  mixed := by kernel_rfl
  f120 := Tryz.func101.trans (congrArg some (by kernel_rfl))
  f197 := Tryz.func84.trans (congrArg some (by kernel_rfl))
  f260 := Tryz.func100.trans (congrArg some (by kernel_rfl))
  f271 := Tryz.func86.trans (congrArg some (by kernel_rfl))
  t0 := Tryz.underlying0
  a0 := Tryz.isAgg0
  z0 := Tryz.sizeOf0
  v0 := Tryz.zeroValue0
  t3 := Tryz.underlying3
  a3 := Tryz.isAgg3
  z3 := Tryz.sizeOf3
  v3 := Tryz.zeroValue3
  t4 := Tryz.underlying4
  a4 := Tryz.isAgg4
  z4 := Tryz.sizeOf4
  v4 := Tryz.zeroValue4
  t5 := Tryz.underlying5
  a5 := Tryz.isAgg5
  z5 := Tryz.sizeOf5
  v5 := Tryz.zeroValue5
  t9 := Tryz.underlying9
  a9 := Tryz.isAgg9
  z9 := Tryz.sizeOf9
  v9 := Tryz.zeroValue9
  t21 := Tryz.underlying21
  a21 := Tryz.isAgg21
  z21 := Tryz.sizeOf21
  v21 := Tryz.zeroValue21
  t46 := Tryz.underlying77
  a46 := Tryz.isAgg77
  z46 := Tryz.sizeOf77
  v46 := Tryz.zeroValue77
  t105 := Tryz.underlying138
  a105 := Tryz.isAgg138
  z105 := Tryz.sizeOf138
  v105 := Tryz.zeroValue138
  t119 := Tryz.underlying206
  a119 := Tryz.isAgg206
  z119 := Tryz.sizeOf206
  t138 := Tryz.underlying208
  a138 := Tryz.isAgg208
  z138 := Tryz.sizeOf208
  v138 := Tryz.zeroValue208
  t139 := Tryz.underlying209
  a139 := Tryz.isAgg209
  z139 := Tryz.sizeOf209
  v139 := Tryz.zeroValue209
  g3 := by kernel_rfl
  g4 := by kernel_rfl }
open Go.RowKit Go.Lib in
/-- **unicode/utf8.DecodeLastRuneInString AT EVERY STRING.** (LAID: no walk: one application.) -/
theorem Tryz.utf8_DecodeLastRuneInString (s : ByteArray) (w : World) (hs : s.size ≤ 9223372036854775807) (hT : Lib.Utf8Tabs 1 2 w) :
    Calls Tryz.prog 86 #[.string s] w fun e w' => e = .returned (.tuple #[.int .i32 (Lib.decodeLastL s.data.toList).1, .int .i64 (Lib.decodeLastL s.data.toList).2]) ∧ Below w.heap.size w w' := Any.utf8_DecodeLastRuneInString Tryz.lays271 s w hs hT
def Tryz.lays272_ren : Go.Shelf.Ren := ⟨fun | 272 => 64 | 315 => 88 | n => n, fun | 9 => 9 | 40 => 109 | 4 => 4 | 3 => 3 | 0 => 0 | 21 => 21 | n => n, fun | n => n⟩
theorem Tryz.lays272 : Go.Proofs.Lays.n272 Tryz.prog Tryz.lays272_ren := {
  mixed := by kernel_rfl
  f272 := Tryz.func64.trans (congrArg some (by kernel_rfl))
  f315 := Tryz.func88.trans (congrArg some (by kernel_rfl))
  t0 := Tryz.underlying0
  a0 := Tryz.isAgg0
  z0 := Tryz.sizeOf0
  v0 := Tryz.zeroValue0
  t3 := Tryz.underlying3
  a3 := Tryz.isAgg3
  z3 := Tryz.sizeOf3
  v3 := Tryz.zeroValue3
  t4 := Tryz.underlying4
  a4 := Tryz.isAgg4
  z4 := Tryz.sizeOf4
  v4 := Tryz.zeroValue4
  t9 := Tryz.underlying9
  a9 := Tryz.isAgg9
  z9 := Tryz.sizeOf9
  v9 := Tryz.zeroValue9
  t21 := Tryz.underlying21
  a21 := Tryz.isAgg21
  z21 := Tryz.sizeOf21
  v21 := Tryz.zeroValue21
  t40 := Tryz.underlying109
  a40 := Tryz.isAgg109
  z40 := Tryz.sizeOf109
  v40 := Tryz.zeroValue109 }
open Go.RowKit Go.Lib in
theorem Tryz.strings_TrimLeftFunc_grows (g : Nat) (lb : Array Value) (eg : ∀ args w, (callFunc g args).run Tryz.prog w = .ok (.enter g args) w) (p : Nat → Bool) (s : ByteArray) (w : World) (hp : PredGrows Tryz.prog g lb p w) :
    Calls Tryz.prog 64 #[.string s, .func (.func g) #[] lb] w fun e w' => e = .returned (.string (Lib.trimLeftF p s)) ∧ Below w.heap.size w w' := Any.strings_TrimLeftFunc_grows Tryz.lays272 g lb eg p s w hp
def Tryz.lays238_ren : Go.Shelf.Ren := ⟨fun | 238 => 66 | 273 => 90 | 197 => 84 | 271 => 86 | 260 => 100 | 120 => 101 | n => n, fun | 9 => 9 | 40 => 109 | 4 => 4 | 3 => 3 | 105 => 138 | 21 => 21 | 5 => 5 | 119 => 206 | 0 => 0 | 46 => 77 | 139 => 209 | 138 => 208 | n => n, fun | 3 => 1 | 4 => 2 | n => n⟩
theorem Tryz.lays238 : Go.Proofs.Lays.n238 Tryz.prog Tryz.lays238_ren := {
  mixed := by kernel_rfl
  f120 := Tryz.func101.trans (congrArg some (by kernel_rfl))
  f197 := Tryz.func84.trans (congrArg some (by kernel_rfl))
  f238 := Tryz.func66.trans (congrArg some (by kernel_rfl))
  f260 := Tryz.func100.trans (congrArg some (by kernel_rfl))
  f271 := Tryz.func86.trans (congrArg some (by kernel_rfl))
  f273 := Tryz.func90.trans (congrArg some (by kernel_rfl))
  t0 := Tryz.underlying0
  a0 := Tryz.isAgg0
  z0 := Tryz.sizeOf0
  v0 := Tryz.zeroValue0
  t3 := Tryz.underlying3
  a3 := Tryz.isAgg3
  z3 := Tryz.sizeOf3
  v3 := Tryz.zeroValue3
  t4 := Tryz.underlying4
  a4 := Tryz.isAgg4
  z4 := Tryz.sizeOf4
  v4 := Tryz.zeroValue4
  t5 := Tryz.underlying5
  a5 := Tryz.isAgg5
  z5 := Tryz.sizeOf5
  v5 := Tryz.zeroValue5
  t9 := Tryz.underlying9
  a9 := Tryz.isAgg9
  z9 := Tryz.sizeOf9
  v9 := Tryz.zeroValue9
  t21 := Tryz.underlying21
  a21 := Tryz.isAgg21
  z21 := Tryz.sizeOf21
  v21 := Tryz.zeroValue21
  t40 := Tryz.underlying109
  a40 := Tryz.isAgg109
  z40 := Tryz.sizeOf109
  v40 := Tryz.zeroValue109
  t46 := Tryz.underlying77
  a46 := Tryz.isAgg77
  z46 := Tryz.sizeOf77
  v46 := Tryz.zeroValue77
  t105 := Tryz.underlying138
  a105 := Tryz.isAgg138
  z105 := Tryz.sizeOf138
  v105 := Tryz.zeroValue138
  t119 := Tryz.underlying206
  a119 := Tryz.isAgg206
  z119 := Tryz.sizeOf206
  t138 := Tryz.underlying208
  a138 := Tryz.isAgg208
  z138 := Tryz.sizeOf208
  v138 := Tryz.zeroValue208
  t139 := Tryz.underlying209
  a139 := Tryz.isAgg209
  z139 := Tryz.sizeOf209
  v139 := Tryz.zeroValue209
  g3 := by kernel_rfl
  g4 := by kernel_rfl }
open Go.RowKit Go.Lib in
theorem Tryz.strings_TrimRightFunc_grows (g : Nat) (lb : Array Value) (eg : ∀ args w, (callFunc g args).run Tryz.prog w = .ok (.enter g args) w) (p : Nat → Bool) (s : ByteArray) (w : World) (hs : s.size ≤ 9223372036854775807) (hT : Lib.Utf8Tabs 1 2 w) (hp : PredGrows Tryz.prog g lb p w) :
    Calls Tryz.prog 66 #[.string s, .func (.func g) #[] lb] w fun e w' => e = .returned (.string (Lib.trimRightF p s)) ∧ Below w.heap.size w w' := Any.strings_TrimRightFunc_grows Tryz.lays238 g lb eg p s w hs hT hp
def Tryz.lays237_ren : Go.Shelf.Ren := ⟨fun | 237 => 87 | 272 => 64 | 238 => 66 | 315 => 88 | 273 => 90 | 197 => 84 | 271 => 86 | 260 => 100 | 120 => 101 | n => n, fun | 9 => 9 | 40 => 109 | 4 => 4 | 3 => 3 | 105 => 138 | 21 => 21 | 0 => 0 | 5 => 5 | 119 => 206 | 46 => 77 | 139 => 209 | 138 => 208 | n => n, fun | 3 => 1 | 4 => 2 | n => n⟩
theorem Tryz.lays237 : Go.Proofs.Lays.n237 Tryz.prog Tryz.lays237_ren := {
  mixed := by kernel_rfl
  f120 := Tryz.func101.trans (congrArg some (by kernel_rfl))
  f197 := Tryz.func84.trans (congrArg some (by kernel_rfl))
  f237 := Tryz.func87.trans (congrArg some (by kernel_rfl))
  f238 := Tryz.func66.trans (congrArg some (by kernel_rfl))
  f260 := Tryz.func100.trans (congrArg some (by kernel_rfl))
  f271 := Tryz.func86.trans (congrArg some (by kernel_rfl))
  f272 := Tryz.func64.trans (congrArg some (by kernel_rfl))
  f273 := Tryz.func90.trans (congrArg some (by kernel_rfl))
  f315 := Tryz.func88.trans (congrArg some (by kernel_rfl))
  t0 := Tryz.underlying0
  a0 := Tryz.isAgg0
  z0 := Tryz.sizeOf0
  v0 := Tryz.zeroValue0
  t3 := Tryz.underlying3
  a3 := Tryz.isAgg3
  z3 := Tryz.sizeOf3
  v3 := Tryz.zeroValue3
  t4 := Tryz.underlying4
  a4 := Tryz.isAgg4
  z4 := Tryz.sizeOf4
  v4 := Tryz.zeroValue4
  t5 := Tryz.underlying5
  a5 := Tryz.isAgg5
  z5 := Tryz.sizeOf5
  v5 := Tryz.zeroValue5
  t9 := Tryz.underlying9
  a9 := Tryz.isAgg9
  z9 := Tryz.sizeOf9
  v9 := Tryz.zeroValue9
  t21 := Tryz.underlying21
  a21 := Tryz.isAgg21
  z21 := Tryz.sizeOf21
  v21 := Tryz.zeroValue21
  t40 := Tryz.underlying109
  a40 := Tryz.isAgg109
  z40 := Tryz.sizeOf109
  v40 := Tryz.zeroValue109
  t46 := Tryz.underlying77
  a46 := Tryz.isAgg77
  z46 := Tryz.sizeOf77
  v46 := Tryz.zeroValue77
  t105 := Tryz.underlying138
  a105 := Tryz.isAgg138
  z105 := Tryz.sizeOf138
  v105 := Tryz.zeroValue138
  t119 := Tryz.underlying206
  a119 := Tryz.isAgg206
  z119 := Tryz.sizeOf206
  t138 := Tryz.underlying208
  a138 := Tryz.isAgg208
  z138 := Tryz.sizeOf208
  v138 := Tryz.zeroValue208
  t139 := Tryz.underlying209
  a139 := Tryz.isAgg209
  z139 := Tryz.sizeOf209
  v139 := Tryz.zeroValue209
  g3 := by kernel_rfl
  g4 := by kernel_rfl }
open Go.RowKit Go.Lib in
/-- **strings.TrimFunc(s, f) AT EVERY STRING, AT WHATEVER FUNCTION VALUE.** (LAID: no walk: one application.) -/
theorem Tryz.strings_TrimFunc_grows (g : Nat) (lb : Array Value) (eg : ∀ args w, (callFunc g args).run Tryz.prog w = .ok (.enter g args) w) (p : Nat → Bool) (s : ByteArray) (w : World) (hs : s.size ≤ 9223372036854775807) (hT : Lib.Utf8Tabs 1 2 w) (hp : PredGrows Tryz.prog g lb p w) :
    Calls Tryz.prog 87 #[.string s, .func (.func g) #[] lb] w fun e w' => e = .returned (.string (Lib.trimF p s)) ∧ Below w.heap.size w w' := Any.strings_TrimFunc_grows Tryz.lays237 g lb eg p s w hs hT hp
end Go.Proofs
