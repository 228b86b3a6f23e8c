/-
  DERIVED: THE SHELF's CONTRACTS AT THIS DUMP, IN PLAIN WORDS (tools/lay-plain.mjs out of 'TrydShelf.lean', which tools/lay-shelf.mjs wrote): THE SAME DECLARATIONS UNDER THE SAME NAMES: 'import', 'namespace', 'open', 'def', 'theorem' AND NOTHING ELSE: no command of the shelf's: FOR A HAND-IN. Each laying: the table of numbers ('.._ren') and one theorem, a field a fact of the dump's own or the kernel's comparison; each contract: ONE APPLICATION.
-/
import Derived.Shelf.Utf8.AppendRune
import Derived.Shelf.Utf8.AppendRunePlain
import Derived.Shelf.Strconv.Bsearch
import Derived.Shelf.Strconv.IsPrint
import Derived.Shelf.Strconv.IsPrint16
import Derived.Shelf.Strconv.IsPrint32
import Derived.Shelf.Unicode.Decode
import Derived.Shelf.Unicode.DecodeSlow
import Derived.Shelf.Unicode.DecodeAny
import Derived.Shelf.Spec.EncodeRune
import Derived.Test.YtbimbpplkhdeiaaDoorProg
namespace Go.Proofs
open Go.Shelf
def Tryd.lays278_ren : Go.Shelf.Ren := ⟨fun | 278 => 28 | n => n, fun | 37 => 30 | 21 => 21 | 51 => 79 | 4 => 4 | 46 => 59 | 5 => 5 | n => n, fun | n => n⟩
theorem Tryd.lays278 : Go.Proofs.Lays.n278 Tryd.prog Tryd.lays278_ren := {
  mixed := by kernel_rfl
  f278 := Tryd.func28.trans (congrArg some (by kernel_rfl))
  t4 := Tryd.underlying4
  a4 := Tryd.isAgg4
  z4 := Tryd.sizeOf4
  v4 := Tryd.zeroValue4
  t5 := Tryd.underlying5
  a5 := Tryd.isAgg5
  z5 := Tryd.sizeOf5
  v5 := Tryd.zeroValue5
  t21 := Tryd.underlying21
  a21 := Tryd.isAgg21
  z21 := Tryd.sizeOf21
  v21 := Tryd.zeroValue21
  t37 := Tryd.underlying30
  a37 := Tryd.isAgg30
  z37 := Tryd.sizeOf30
  v37 := Tryd.zeroValue30
  t46 := Tryd.underlying59
  a46 := Tryd.isAgg59
  z46 := Tryd.sizeOf59
  v46 := Tryd.zeroValue59
  t51 := Tryd.underlying79
  a51 := Tryd.isAgg79
  z51 := Tryd.sizeOf79
  v51 := Tryd.zeroValue79 }
open Go.RowKit in
/-- unicode/utf8.appendRuneNonASCII (what AppendRune calls for all but ASCII), ONTO A ROW OF BYTES THAT THE CALL OWNS: every int32 that is no ASCII rune: 'Lib.runeCells r' goes in behind what the row holds. (LAID: no walk: one application.) -/
theorem Tryd.utf8_appendRuneNonASCII_row (B : Nat) (v : Value) (n : Nat) (xs : List Value) (r : Int) (hr0 : -2147483648 ≤ r) (hr1 : r ≤ 2147483647) (hna : r < 0 ∨ 128 ≤ r) (w : World) (hown : w.ownsRowF B 5 1 v n xs) (hlen : n + 4 ≤ 140737488355328) (hBw : B ≤ w.heap.size) :
    Calls Tryd.prog 28 #[v, .int .i32 r] w fun e w' => ∃ v', e = .returned v' ∧ w'.ownsRowF B 5 1 v' (n + (Lib.runeCells r).length) (xs ++ Lib.runeCells r) ∧ ∃ o, (w.alloc o).grownBy w' v.ownBlock := Any.utf8_appendRuneNonASCII_row Tryd.lays278 (by kernel_rfl) B v n xs r hr0 hr1 hna w hown hlen hBw
def Tryd.lays242_ren : Go.Shelf.Ren := ⟨fun | 242 => 21 | 278 => 28 | n => n, fun | 37 => 30 | 21 => 21 | 51 => 79 | 4 => 4 | 5 => 5 | 46 => 59 | n => n, fun | n => n⟩
theorem Tryd.lays242 : Go.Proofs.Lays.n242 Tryd.prog Tryd.lays242_ren := {
  mixed := by kernel_rfl
  f242 := Tryd.func21.trans (congrArg some (by kernel_rfl))
  f278 := Tryd.func28.trans (congrArg some (by kernel_rfl))
  t4 := Tryd.underlying4
  a4 := Tryd.isAgg4
  z4 := Tryd.sizeOf4
  v4 := Tryd.zeroValue4
  t5 := Tryd.underlying5
  a5 := Tryd.isAgg5
  z5 := Tryd.sizeOf5
  v5 := Tryd.zeroValue5
  t21 := Tryd.underlying21
  a21 := Tryd.isAgg21
  z21 := Tryd.sizeOf21
  v21 := Tryd.zeroValue21
  t37 := Tryd.underlying30
  a37 := Tryd.isAgg30
  z37 := Tryd.sizeOf30
  v37 := Tryd.zeroValue30
  t46 := Tryd.underlying59
  a46 := Tryd.isAgg59
  z46 := Tryd.sizeOf59
  v46 := Tryd.zeroValue59
  t51 := Tryd.underlying79
  a51 := Tryd.isAgg79
  z51 := Tryd.sizeOf79
  v51 := Tryd.zeroValue79 }
open Go.RowKit in
/-- unicode/utf8.AppendRune: "AppendRune appends the UTF-8 encoding of r to the end of p and returns the extended buffer. If the rune is out of range, it appends the encoding of RuneError.": ONTO A ROW OF BYTES THAT THE CALL OWNS (its head frozen or not): EVERY int32: 'Lib.runeCells r' goes in behind what the row holds; the world: one new block (the bytes as the call's variadic argument), then what 'append' does to the row. (LAID: no walk: one application.) -/
theorem Tryd.utf8_AppendRune_row (B : Nat) (v : Value) (n : Nat) (xs : List Value) (r : Int) (hr0 : -2147483648 ≤ r) (hr1 : r ≤ 2147483647) (w : World) (hown : w.ownsRowF B 5 1 v n xs) (hlen : n + 4 ≤ 140737488355328) (hBw : B ≤ w.heap.size) :
    Calls Tryd.prog 21 #[v, .int .i32 r] w fun e w' => ∃ v', e = .returned v' ∧ w'.ownsRowF B 5 1 v' (n + (Lib.runeCells r).length) (xs ++ Lib.runeCells r) ∧ ∃ o, (w.alloc o).grownBy w' v.ownBlock := Any.utf8_AppendRune_row Tryd.lays242 (by kernel_rfl) B v n xs r hr0 hr1 w hown hlen hBw
open Go.RowKit in
/-- unicode/utf8.appendRuneNonASCII (what AppendRune calls for all but ASCII), ONTO A ROW OF BYTES THAT THE CALL OWNS: every int32 that is no ASCII rune: 'Lib.runeCells r' goes in behind what the row holds. (LAID: no walk: one application.) -/
theorem Tryd.utf8_appendRuneNonASCII_plain (B : Nat) (v : Value) (n : Nat) (xs : List Value) (r : Int) (hr0 : -2147483648 ≤ r) (hr1 : r ≤ 2147483647) (hna : r < 0 ∨ 128 ≤ r) (w : World) (hown : w.ownsRow B 5 1 v n xs) (hlen : n + 4 ≤ 140737488355328) (hBw : B ≤ w.heap.size) :
    Calls Tryd.prog 28 #[v, .int .i32 r] w fun e w' => ∃ v', e = .returned v' ∧ w'.ownsRow B 5 1 v' (n + (Lib.runeCells r).length) (xs ++ Lib.runeCells r) ∧ ∃ o, (w.alloc o).grownBy w' v.ownBlock := Any.utf8_appendRuneNonASCII_plain Tryd.lays278 (by kernel_rfl) B v n xs r hr0 hr1 hna w hown hlen hBw
open Go.RowKit in
/-- unicode/utf8.AppendRune: "AppendRune appends the UTF-8 encoding of r to the end of p and returns the extended buffer. If the rune is out of range, it appends the encoding of RuneError.": ONTO A ROW OF BYTES THAT THE CALL OWNS (its head frozen or not): EVERY int32: 'Lib.runeCells r' goes in behind what the row holds; the world: one new block (the bytes as the call's variadic argument), then what 'append' does to the row. (LAID: no walk: one application.) -/
theorem Tryd.utf8_AppendRune_plain (B : Nat) (v : Value) (n : Nat) (xs : List Value) (r : Int) (hr0 : -2147483648 ≤ r) (hr1 : r ≤ 2147483647) (w : World) (hown : w.ownsRow B 5 1 v n xs) (hlen : n + 4 ≤ 140737488355328) (hBw : B ≤ w.heap.size) :
    Calls Tryd.prog 21 #[v, .int .i32 r] w fun e w' => ∃ v', e = .returned v' ∧ w'.ownsRow B 5 1 v' (n + (Lib.runeCells r).length) (xs ++ Lib.runeCells r) ∧ ∃ o, (w.alloc o).grownBy w' v.ownBlock := Any.utf8_AppendRune_plain Tryd.lays242 (by kernel_rfl) B v n xs r hr0 hr1 w hown hlen hBw
def Tryd.lays345_ren : Go.Shelf.Ren := ⟨fun | 345 => 29 | n => n, fun | 234 => 81 | 49 => 80 | 3 => 3 | 4 => 4 | 46 => 59 | 0 => 0 | n => n, fun | n => n⟩
theorem Tryd.lays345 : Go.Proofs.Lays.n345 Tryd.prog Tryd.lays345_ren := {
  mixed := by kernel_rfl
  f345 := Tryd.func29.trans (congrArg some (by kernel_rfl))
  t0 := Tryd.underlying0
  a0 := Tryd.isAgg0
  z0 := Tryd.sizeOf0
  v0 := Tryd.zeroValue0
  t3 := Tryd.underlying3
  a3 := Tryd.isAgg3
  z3 := Tryd.sizeOf3
  v3 := Tryd.zeroValue3
  t4 := Tryd.underlying4
  a4 := Tryd.isAgg4
  z4 := Tryd.sizeOf4
  v4 := Tryd.zeroValue4
  t46 := Tryd.underlying59
  a46 := Tryd.isAgg59
  z46 := Tryd.sizeOf59
  v46 := Tryd.zeroValue59
  t49 := Tryd.underlying80
  a49 := Tryd.isAgg80
  z49 := Tryd.sizeOf80
  v49 := Tryd.zeroValue80
  t234 := Tryd.underlying81
  a234 := Tryd.isAgg81
  z234 := Tryd.sizeOf81
  v234 := Tryd.zeroValue81 }
open Go.RowKit in
/-- strconv.bsearch[[]uint16,uint16]: a table of whatever numbers (sorted or not: WHAT IS SAID IS WHAT THE LOOP COMPUTES: 'Lib.bsearchI', 'Lib.bsearchFound'), at least one of them; draws alone (the last statement's order); nothing else turns. (LAID: no walk: one application.) -/
theorem Tryd.strconv_bsearch16 (R o c : Nat) (t : List Nat) (v : Nat) (w : World) (h0 : 0 < t.length) (hn : t.length ≤ 4611686018427387904) (hc : ∀ j, j < t.length → w.cell? ⟨R, o + j, none⟩ = some (.int .u16 (t.getD j 0))) :
    Calls Tryd.prog 29 #[.slice (some ⟨R, o, none⟩) t.length c, .int .u16 v] w fun e w' => e = .returned (.tuple #[.int .i64 (Lib.bsearchI t v), .bool (Lib.bsearchFound t v)]) ∧ ∃ q, w' = w.drewN q := Any.strconv_bsearch16 Tryd.lays345 R o c t v w h0 hn hc
def Tryd.lays346_ren : Go.Shelf.Ren := ⟨fun | 346 => 30 | n => n, fun | 236 => 83 | 51 => 79 | 3 => 3 | 4 => 4 | 46 => 59 | 0 => 0 | n => n, fun | n => n⟩
theorem Tryd.lays346 : Go.Proofs.Lays.n346 Tryd.prog Tryd.lays346_ren := {
  mixed := by kernel_rfl
  f346 := Tryd.func30.trans (congrArg some (by kernel_rfl))
  t0 := Tryd.underlying0
  a0 := Tryd.isAgg0
  z0 := Tryd.sizeOf0
  v0 := Tryd.zeroValue0
  t3 := Tryd.underlying3
  a3 := Tryd.isAgg3
  z3 := Tryd.sizeOf3
  v3 := Tryd.zeroValue3
  t4 := Tryd.underlying4
  a4 := Tryd.isAgg4
  z4 := Tryd.sizeOf4
  v4 := Tryd.zeroValue4
  t46 := Tryd.underlying59
  a46 := Tryd.isAgg59
  z46 := Tryd.sizeOf59
  v46 := Tryd.zeroValue59
  t51 := Tryd.underlying79
  a51 := Tryd.isAgg79
  z51 := Tryd.sizeOf79
  v51 := Tryd.zeroValue79
  t236 := Tryd.underlying83
  a236 := Tryd.isAgg83
  z236 := Tryd.sizeOf83
  v236 := Tryd.zeroValue83 }
open Go.RowKit in
/-- strconv.bsearch[[]uint32,uint32]: a table of whatever numbers (sorted or not: WHAT IS SAID IS WHAT THE LOOP COMPUTES: 'Lib.bsearchI', 'Lib.bsearchFound'), at least one of them; draws alone (the last statement's order); nothing else turns. (LAID: no walk: one application.) -/
theorem Tryd.strconv_bsearch32 (R o c : Nat) (t : List Nat) (v : Nat) (w : World) (h0 : 0 < t.length) (hn : t.length ≤ 4611686018427387904) (hc : ∀ j, j < t.length → w.cell? ⟨R, o + j, none⟩ = some (.int .u32 (t.getD j 0))) :
    Calls Tryd.prog 30 #[.slice (some ⟨R, o, none⟩) t.length c, .int .u32 v] w fun e w' => e = .returned (.tuple #[.int .i64 (Lib.bsearchI t v), .bool (Lib.bsearchFound t v)]) ∧ ∃ q, w' = w.drewN q := Any.strconv_bsearch32 Tryd.lays346 R o c t v w h0 hn hc
def Tryd.lays339_ren : Go.Shelf.Ren := ⟨fun | 339 => 22 | 345 => 29 | 346 => 30 | n => n, fun | 21 => 21 | 4 => 4 | 49 => 80 | 234 => 81 | 131 => 27 | 3 => 3 | 0 => 0 | 51 => 79 | 236 => 83 | 46 => 59 | n => n, fun | 20 => 2 | 21 => 3 | 22 => 4 | 23 => 5 | n => n⟩
theorem Tryd.lays339 : Go.Proofs.Lays.n339 Tryd.prog Tryd.lays339_ren := {
  mixed := by kernel_rfl
  f339 := Tryd.func22.trans (congrArg some (by kernel_rfl))
  f345 := Tryd.func29.trans (congrArg some (by kernel_rfl))
  f346 := Tryd.func30.trans (congrArg some (by kernel_rfl))
  t0 := Tryd.underlying0
  a0 := Tryd.isAgg0
  z0 := Tryd.sizeOf0
  v0 := Tryd.zeroValue0
  t3 := Tryd.underlying3
  a3 := Tryd.isAgg3
  z3 := Tryd.sizeOf3
  v3 := Tryd.zeroValue3
  t4 := Tryd.underlying4
  a4 := Tryd.isAgg4
  z4 := Tryd.sizeOf4
  v4 := Tryd.zeroValue4
  t21 := Tryd.underlying21
  a21 := Tryd.isAgg21
  z21 := Tryd.sizeOf21
  v21 := Tryd.zeroValue21
  t46 := Tryd.underlying59
  a46 := Tryd.isAgg59
  z46 := Tryd.sizeOf59
  v46 := Tryd.zeroValue59
  t49 := Tryd.underlying80
  a49 := Tryd.isAgg80
  z49 := Tryd.sizeOf80
  v49 := Tryd.zeroValue80
  t51 := Tryd.underlying79
  a51 := Tryd.isAgg79
  z51 := Tryd.sizeOf79
  v51 := Tryd.zeroValue79
  t131 := Tryd.underlying27
  a131 := Tryd.isAgg27
  z131 := Tryd.sizeOf27
  v131 := Tryd.zeroValue27
  t234 := Tryd.underlying81
  a234 := Tryd.isAgg81
  z234 := Tryd.sizeOf81
  v234 := Tryd.zeroValue81
  t236 := Tryd.underlying83
  a236 := Tryd.isAgg83
  z236 := Tryd.sizeOf83
  v236 := Tryd.zeroValue83
  g20 := by kernel_rfl
  g21 := by kernel_rfl
  g22 := by kernel_rfl
  g23 := by kernel_rfl }
open Go.RowKit in
/-- strconv.IsPrint AT r ≤ 0xFF, negative ones too ('Fast check for Latin-1'): no table is read; nothing turns. (LAID: no walk: one application.) -/
theorem Tryd.strconv_IsPrint_latin (r : Int) (w : World) (hr : r ≤ 255) :
    Calls Tryd.prog 22 #[.int .i32 r] w fun e w' => e = .returned (.bool (Lib.isPrintLatin r)) ∧ w' = w := Any.strconv_IsPrint_latin Tryd.lays339 r w hr
open Go.RowKit in
/-- strconv.IsPrint AT 0xFF < r < 0x10000: two of the four tables are read. (LAID: no walk: one application.) -/
theorem Tryd.strconv_IsPrint_16 (T : Lib.PrintTabs) (r : Nat) (w : World) (h1 : 255 < r) (h2 : r < 65536) (hT : Lib.PrintTabsAt 2 3 4 5 T w) :
    Calls Tryd.prog 22 #[.int .i32 r] w fun e w' => e = .returned (.bool (Lib.isPrintR T r)) ∧ ∃ q, w' = w.drewN q := Any.strconv_IsPrint_16 Tryd.lays339 T r w h1 h2 hT
open Go.RowKit in
/-- strconv.IsPrint AT 0xFFFF < r (an int32): the two other tables are read. (LAID: no walk: one application.) -/
theorem Tryd.strconv_IsPrint_32 (T : Lib.PrintTabs) (r : Nat) (w : World) (h1 : 65535 < r) (h2 : r < 2147483648) (hT : Lib.PrintTabsAt 2 3 4 5 T w) :
    Calls Tryd.prog 22 #[.int .i32 r] w fun e w' => e = .returned (.bool (Lib.isPrintR T r)) ∧ ∃ q, w' = w.drewN q := Any.strconv_IsPrint_32 Tryd.lays339 T r w h1 h2 hT
open Go.RowKit in
/-- strconv.IsPrint AT EVERY int32: 'Lib.isPrintR T r', the four tables as 'Lib.PrintTabsAt' says; draws alone. (LAID: no walk: one application.) -/
theorem Tryd.strconv_IsPrint (T : Lib.PrintTabs) (r : Int) (w : World) (hlo : -2147483648 ≤ r) (hhi : r ≤ 2147483647) (hT : Lib.PrintTabsAt 2 3 4 5 T w) :
    Calls Tryd.prog 22 #[.int .i32 r] w fun e w' => e = .returned (.bool (Lib.isPrintR T r)) ∧ ∃ q, w' = w.drewN q := Any.strconv_IsPrint Tryd.lays339 T r w hlo hhi hT
def Tryd.lays197_ren : Go.Shelf.Ren := ⟨fun | 197 => 9 | 260 => 14 | n => n, fun | 9 => 9 | 21 => 21 | 3 => 3 | 4 => 4 | 5 => 5 | 105 => 31 | 119 => 58 | 0 => 0 | 46 => 59 | 139 => 62 | 138 => 61 | n => n, fun | 3 => 0 | 4 => 1 | n => n⟩
theorem Tryd.lays197 : Go.Proofs.Lays.n197 Tryd.prog Tryd.lays197_ren := {
  mixed := by kernel_rfl
  f197 := Tryd.func9.trans (congrArg some (by kernel_rfl))
  f260 := Tryd.func14.trans (congrArg some (by kernel_rfl))
  t0 := Tryd.underlying0
  a0 := Tryd.isAgg0
  z0 := Tryd.sizeOf0
  v0 := Tryd.zeroValue0
  t3 := Tryd.underlying3
  a3 := Tryd.isAgg3
  z3 := Tryd.sizeOf3
  v3 := Tryd.zeroValue3
  t4 := Tryd.underlying4
  a4 := Tryd.isAgg4
  z4 := Tryd.sizeOf4
  v4 := Tryd.zeroValue4
  t5 := Tryd.underlying5
  a5 := Tryd.isAgg5
  z5 := Tryd.sizeOf5
  v5 := Tryd.zeroValue5
  t9 := Tryd.underlying9
  a9 := Tryd.isAgg9
  z9 := Tryd.sizeOf9
  v9 := Tryd.zeroValue9
  t21 := Tryd.underlying21
  a21 := Tryd.isAgg21
  z21 := Tryd.sizeOf21
  v21 := Tryd.zeroValue21
  t46 := Tryd.underlying59
  a46 := Tryd.isAgg59
  z46 := Tryd.sizeOf59
  v46 := Tryd.zeroValue59
  t105 := Tryd.underlying31
  a105 := Tryd.isAgg31
  z105 := Tryd.sizeOf31
  v105 := Tryd.zeroValue31
  t119 := Tryd.underlying58
  a119 := Tryd.isAgg58
  z119 := Tryd.sizeOf58
  t138 := Tryd.underlying61
  a138 := Tryd.isAgg61
  z138 := Tryd.sizeOf61
  v138 := Tryd.zeroValue61
  t139 := Tryd.underlying62
  a139 := Tryd.isAgg62
  z139 := Tryd.sizeOf62
  v139 := Tryd.zeroValue62
  g3 := by kernel_rfl
  g4 := by kernel_rfl }
open Go.RowKit Go.Lib in
/-- unicode/utf8.DecodeRuneInString: "DecodeRuneInString is like DecodeRune but its input is a string.": ("DecodeRune unpacks the first UTF-8 encoding in p and returns the rune and its width in bytes."): WHERE s BEGINS WITH AN ASCII BYTE x: (x, 1). (LAID: no walk: one application.) -/
theorem Tryd.utf8_DecodeRuneInString_ascii (s : ByteArray) (x : UInt8) (w : World) (h0 : s.data.toList[0]? = some x) (hx : x.toNat < 128) :
    Calls Tryd.prog 9 #[.string s] w fun e w' => e = .returned (.tuple #[.int .i32 x.toNat, .int .i64 1]) ∧ w' = w := Any.utf8_DecodeRuneInString_ascii Tryd.lays197 s x w h0 hx
def Tryd.lays260_ren : Go.Shelf.Ren := ⟨fun | 260 => 14 | n => n, fun | 9 => 9 | 21 => 21 | 3 => 3 | 4 => 4 | 5 => 5 | 119 => 58 | 0 => 0 | 46 => 59 | 139 => 62 | 138 => 61 | n => n, fun | 3 => 0 | 4 => 1 | n => n⟩
theorem Tryd.lays260 : Go.Proofs.Lays.n260 Tryd.prog Tryd.lays260_ren := {
  mixed := by kernel_rfl
  f260 := Tryd.func14.trans (congrArg some (by kernel_rfl))
  t0 := Tryd.underlying0
  a0 := Tryd.isAgg0
  z0 := Tryd.sizeOf0
  v0 := Tryd.zeroValue0
  t3 := Tryd.underlying3
  a3 := Tryd.isAgg3
  z3 := Tryd.sizeOf3
  v3 := Tryd.zeroValue3
  t4 := Tryd.underlying4
  a4 := Tryd.isAgg4
  z4 := Tryd.sizeOf4
  v4 := Tryd.zeroValue4
  t5 := Tryd.underlying5
  a5 := Tryd.isAgg5
  z5 := Tryd.sizeOf5
  v5 := Tryd.zeroValue5
  t9 := Tryd.underlying9
  a9 := Tryd.isAgg9
  z9 := Tryd.sizeOf9
  v9 := Tryd.zeroValue9
  t21 := Tryd.underlying21
  a21 := Tryd.isAgg21
  z21 := Tryd.sizeOf21
  v21 := Tryd.zeroValue21
  t46 := Tryd.underlying59
  a46 := Tryd.isAgg59
  z46 := Tryd.sizeOf59
  v46 := Tryd.zeroValue59
  t119 := Tryd.underlying58
  a119 := Tryd.isAgg58
  z119 := Tryd.sizeOf58
  t138 := Tryd.underlying61
  a138 := Tryd.isAgg61
  z138 := Tryd.sizeOf61
  v138 := Tryd.zeroValue61
  t139 := Tryd.underlying62
  a139 := Tryd.isAgg62
  z139 := Tryd.sizeOf62
  v139 := Tryd.zeroValue62
  g3 := by kernel_rfl
  g4 := by kernel_rfl }
open Go.RowKit Go.Lib in
theorem Tryd.utf8_decodeRuneInStringSlow (s : ByteArray) (w : World) (hT : Lib.Utf8Tabs 0 1 w) :
    Calls Tryd.prog 14 #[.string s] w fun e w' => e = .returned (.tuple #[.int .i32 (Lib.decodeGo s).1, .int .i64 (Lib.decodeGo s).2]) ∧ Below w.heap.size w w' := Any.utf8_decodeRuneInStringSlow Tryd.lays260 s w hT
open Go.RowKit Go.Lib in
/-- **unicode/utf8.DecodeRuneInString AT EVERY STRING.** (LAID: no walk: one application.) -/
theorem Tryd.utf8_DecodeRuneInString (s : ByteArray) (w : World) (hT : Lib.Utf8Tabs 0 1 w) :
    Calls Tryd.prog 9 #[.string s] w fun e w' => e = .returned (.tuple #[.int .i32 (Lib.decodeGo s).1, .int .i64 (Lib.decodeGo s).2]) ∧ Below w.heap.size w w' := Any.utf8_DecodeRuneInString Tryd.lays197 s w hT
def Tryd.lays7_30_ren : Go.Shelf.Ren := ⟨fun | 30 => 23 | 47 => 31 | n => n, fun | 30 => 30 | 21 => 21 | 3 => 3 | 27 => 79 | 4 => 4 | 5 => 5 | 0 => 0 | 25 => 59 | n => n, fun | n => n⟩
theorem Tryd.lays7_30 : Go.Proofs.Lays7.n30 Tryd.prog Tryd.lays7_30_ren := {
  mixed := by kernel_rfl
  f30 := Tryd.func23.trans (congrArg some (by kernel_rfl))
  f47 := Tryd.func31.trans (congrArg some (by kernel_rfl))
  t0 := Tryd.underlying0
  a0 := Tryd.isAgg0
  z0 := Tryd.sizeOf0
  v0 := Tryd.zeroValue0
  i0 := by kernel_rfl
  t3 := Tryd.underlying3
  a3 := Tryd.isAgg3
  z3 := Tryd.sizeOf3
  v3 := Tryd.zeroValue3
  i3 := by kernel_rfl
  t4 := Tryd.underlying4
  a4 := Tryd.isAgg4
  z4 := Tryd.sizeOf4
  v4 := Tryd.zeroValue4
  i4 := by kernel_rfl
  t5 := Tryd.underlying5
  a5 := Tryd.isAgg5
  z5 := Tryd.sizeOf5
  v5 := Tryd.zeroValue5
  i5 := by kernel_rfl
  t21 := Tryd.underlying21
  a21 := Tryd.isAgg21
  z21 := Tryd.sizeOf21
  v21 := Tryd.zeroValue21
  i21 := by kernel_rfl
  t25 := Tryd.underlying59
  a25 := Tryd.isAgg59
  z25 := Tryd.sizeOf59
  v25 := Tryd.zeroValue59
  i25 := by kernel_rfl
  t27 := Tryd.underlying79
  a27 := Tryd.isAgg79
  z27 := Tryd.sizeOf79
  v27 := Tryd.zeroValue79
  i27 := by kernel_rfl
  t30 := Tryd.underlying30
  a30 := Tryd.isAgg30
  z30 := Tryd.sizeOf30
  v30 := Tryd.zeroValue30
  i30 := by kernel_rfl }
open Go.RowKit in
theorem Tryd.utf8_EncodeRune (b off len cap : Nat) (r : Int) (hlo : -2147483648 ≤ r) (hhi : r ≤ 2147483647) (w : World) (hl : (Lib.runeCells r).length ≤ len) (hc : ∀ j, j < (Lib.runeCells r).length → (w.cell? ⟨b, off + j, none⟩).isSome = true) (hf : ∀ j, j < (Lib.runeCells r).length → w.frozen? ⟨b, off + j, none⟩ = false) :
    Calls Tryd.prog 23 #[.slice (some ⟨b, off, none⟩) len cap, .int .i32 r] w fun e w' => e = .returned (.int .i64 (Lib.runeCells r).length) ∧ w' = w.setCells b off (Lib.runeCells r) := Any7.utf8_EncodeRune Tryd.lays7_30 b off len cap r hlo hhi w hl hc hf
end Go.Proofs
