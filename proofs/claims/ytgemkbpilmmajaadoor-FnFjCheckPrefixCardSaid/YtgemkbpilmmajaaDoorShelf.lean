/- The kit's contracts of Go's own library, laid at this seat's numbers by the kit's tools lay-shelf and lay-plain. -/
import Derived.Shelf.Small.Utf8
import Derived.Shelf.Small.Strs
import Derived.Shelf.Utf8.AppendRune
import Derived.Shelf.Strconv.Bsearch
import Derived.Shelf.Strconv.IsPrint
import Derived.Shelf.Strconv.IsPrint16
import Derived.Shelf.Strconv.IsPrint32
import Derived.Shelf.Strconv.Itoa0
import Derived.Shelf.Strconv.Itoa1
import Derived.Shelf.LaysM
import Derived.Shelf.Strconv.Itoa2
import Derived.Shelf.Strconv.Itoa3
import Derived.Shelf.Strconv.Clone
import Derived.Ground.MnProg
import Derived.Shelf.Bin.LEUint64
import Derived.Shelf.Bin.LEUint64Panics
import Derived.Ground.MpProg
import Derived.Shelf.Pu.ParseUintPublic10
import Derived.Shelf.Pu.ErrVarParseUint
import Derived.Shelf.Strings.Search1
import Derived.Shelf.Bin.ReadersZ
import Derived.Shelf.Unicode.Decode
import Derived.Shelf.Unicode.DecodeSlow
import Derived.Shelf.Unicode.DecodeAny
import Derived.Test.YtgemkbpilmmajaaDoorProg
namespace Go.Proofs
open Go.Shelf
def Tryd.lays119_ren : Go.Shelf.Ren := ⟨fun | 119 => 97 | n => n, fun | 21 => 21 | 4 => 4 | n => n, fun | n => n⟩
theorem Tryd.lays119 : Go.Proofs.Lays.n119 Tryd.prog Tryd.lays119_ren := {
  mixed := by kernel_rfl
  f119 := Tryd.func97.trans (congrArg some (by kernel_rfl))
  t4 := Tryd.underlying4
  a4 := Tryd.isAgg4
  z4 := Tryd.sizeOf4
  v4 := Tryd.zeroValue4
  t21 := Tryd.underlying21
  a21 := Tryd.isAgg21
  z21 := Tryd.sizeOf21
  v21 := Tryd.zeroValue21 }
/-- utf8.ValidRune: "ValidRune reports whether r can be legally encoded as UTF-8. Code points that are out of range or a surrogate half are illegal.": IT RETURNS 'Lib.validRune r'; the world is as it was. (LAID: no walk: one application.) -/
theorem Tryd.utf8_ValidRune (r : Int) (w : World) :
    Calls Tryd.prog 97 #[.int .i32 r] w fun e w' => e = .returned (.bool (Lib.validRune r)) ∧ w' = w := Any.utf8_ValidRune Tryd.lays119 r w
def Tryd.lays137_ren : Go.Shelf.Ren := ⟨fun | 137 => 63 | 217 => 86 | 266 => 100 | n => n, fun | 9 => 9 | 5 => 5 | 3 => 3 | n => n, fun | n => n⟩
theorem Tryd.lays137 : Go.Proofs.Lays.n137 Tryd.prog Tryd.lays137_ren := {
  mixed := by kernel_rfl
  f137 := Tryd.func63.trans (congrArg some (by kernel_rfl))
  f217 := Tryd.func86.trans (congrArg some (by kernel_rfl))
  f266 := Tryd.func100.trans (congrArg some (by kernel_rfl))
  t3 := Tryd.underlying3
  a3 := Tryd.isAgg3
  z3 := Tryd.sizeOf3
  v3 := Tryd.zeroValue3
  t5 := Tryd.underlying5
  a5 := Tryd.isAgg5
  z5 := Tryd.sizeOf5
  v5 := Tryd.zeroValue5
  t9 := Tryd.underlying9
  a9 := Tryd.isAgg9
  z9 := Tryd.sizeOf9
  v9 := Tryd.zeroValue9 }
open Go.RowKit in
/-- strings.IndexByte: "IndexByte returns the index of the first instance of c in s, or -1 if c is not present in s.": IT RETURNS 'Lib.indexByte s c'; the world is as it was. (LAID: no walk: one application.) -/
theorem Tryd.strings_IndexByte (s : ByteArray) (c : Int) (w : World) :
    Calls Tryd.prog 63 #[.string s, .int .u8 c] w fun e w' => e = .returned (.int .i64 (Lib.indexByte s.data.toList c.toNat.toUInt8)) ∧ w' = w := Any.strings_IndexByte Tryd.lays137 s c w
def Tryd.lays278_ren : Go.Shelf.Ren := ⟨fun | 278 => 104 | n => n, fun | 37 => 45 | 21 => 21 | 51 => 138 | 4 => 4 | 46 => 84 | 5 => 5 | n => n, fun | n => n⟩
theorem Tryd.lays278 : Go.Proofs.Lays.n278 Tryd.prog Tryd.lays278_ren := {
  mixed := by kernel_rfl
  f278 := Tryd.func104.trans (congrArg some (by kernel_rfl))
  t4 := Tryd.underlying4
  a4 := Tryd.isAgg4
  z4 := Tryd.sizeOf4
  v4 := Tryd.zeroValue4
  t5 := Tryd.underlying5
  a5 := Tryd.isAgg5
  z5 := Tryd.sizeOf5
  v5 := Tryd.zeroValue5
  t21 := Tryd.underlying21
  a21 := Tryd.isAgg21
  z21 := Tryd.sizeOf21
  v21 := Tryd.zeroValue21
  t37 := Tryd.underlying45
  a37 := Tryd.isAgg45
  z37 := Tryd.sizeOf45
  v37 := Tryd.zeroValue45
  t46 := Tryd.underlying84
  a46 := Tryd.isAgg84
  z46 := Tryd.sizeOf84
  v46 := Tryd.zeroValue84
  t51 := Tryd.underlying138
  a51 := Tryd.isAgg138
  z51 := Tryd.sizeOf138
  v51 := Tryd.zeroValue138 }
open Go.RowKit in
/-- unicode/utf8.appendRuneNonASCII (what AppendRune calls for all but ASCII), ONTO A ROW OF BYTES THAT THE CALL OWNS: every int32 that is no ASCII rune: 'Lib.runeCells r' goes in behind what the row holds. (LAID: no walk: one application.) -/
theorem Tryd.utf8_appendRuneNonASCII_row (B : Nat) (v : Value) (n : Nat) (xs : List Value) (r : Int) (hr0 : -2147483648 ≤ r) (hr1 : r ≤ 2147483647) (hna : r < 0 ∨ 128 ≤ r) (w : World) (hown : w.ownsRowF B 5 1 v n xs) (hlen : n + 4 ≤ 140737488355328) (hBw : B ≤ w.heap.size) :
    Calls Tryd.prog 104 #[v, .int .i32 r] w fun e w' => ∃ v', e = .returned v' ∧ w'.ownsRowF B 5 1 v' (n + (Lib.runeCells r).length) (xs ++ Lib.runeCells r) ∧ ∃ o, (w.alloc o).grownBy w' v.ownBlock := Any.utf8_appendRuneNonASCII_row Tryd.lays278 (by kernel_rfl) B v n xs r hr0 hr1 hna w hown hlen hBw
def Tryd.lays242_ren : Go.Shelf.Ren := ⟨fun | 242 => 96 | 278 => 104 | n => n, fun | 37 => 45 | 21 => 21 | 51 => 138 | 4 => 4 | 5 => 5 | 46 => 84 | n => n, fun | n => n⟩
theorem Tryd.lays242 : Go.Proofs.Lays.n242 Tryd.prog Tryd.lays242_ren := {
  mixed := by kernel_rfl
  f242 := Tryd.func96.trans (congrArg some (by kernel_rfl))
  f278 := Tryd.func104.trans (congrArg some (by kernel_rfl))
  t4 := Tryd.underlying4
  a4 := Tryd.isAgg4
  z4 := Tryd.sizeOf4
  v4 := Tryd.zeroValue4
  t5 := Tryd.underlying5
  a5 := Tryd.isAgg5
  z5 := Tryd.sizeOf5
  v5 := Tryd.zeroValue5
  t21 := Tryd.underlying21
  a21 := Tryd.isAgg21
  z21 := Tryd.sizeOf21
  v21 := Tryd.zeroValue21
  t37 := Tryd.underlying45
  a37 := Tryd.isAgg45
  z37 := Tryd.sizeOf45
  v37 := Tryd.zeroValue45
  t46 := Tryd.underlying84
  a46 := Tryd.isAgg84
  z46 := Tryd.sizeOf84
  v46 := Tryd.zeroValue84
  t51 := Tryd.underlying138
  a51 := Tryd.isAgg138
  z51 := Tryd.sizeOf138
  v51 := Tryd.zeroValue138 }
open Go.RowKit in
/-- unicode/utf8.AppendRune: "AppendRune appends the UTF-8 encoding of r to the end of p and returns the extended buffer. If the rune is out of range, it appends the encoding of RuneError.": ONTO A ROW OF BYTES THAT THE CALL OWNS (its head frozen or not): EVERY int32: 'Lib.runeCells r' goes in behind what the row holds; the world: one new block (the bytes as the call's variadic argument), then what 'append' does to the row. (LAID: no walk: one application.) -/
theorem Tryd.utf8_AppendRune_row (B : Nat) (v : Value) (n : Nat) (xs : List Value) (r : Int) (hr0 : -2147483648 ≤ r) (hr1 : r ≤ 2147483647) (w : World) (hown : w.ownsRowF B 5 1 v n xs) (hlen : n + 4 ≤ 140737488355328) (hBw : B ≤ w.heap.size) :
    Calls Tryd.prog 96 #[v, .int .i32 r] w fun e w' => ∃ v', e = .returned v' ∧ w'.ownsRowF B 5 1 v' (n + (Lib.runeCells r).length) (xs ++ Lib.runeCells r) ∧ ∃ o, (w.alloc o).grownBy w' v.ownBlock := Any.utf8_AppendRune_row Tryd.lays242 (by kernel_rfl) B v n xs r hr0 hr1 w hown hlen hBw
def Tryd.lays345_ren : Go.Shelf.Ren := ⟨fun | 345 => 102 | n => n, fun | 234 => 136 | 49 => 135 | 3 => 3 | 4 => 4 | 46 => 84 | 0 => 0 | n => n, fun | n => n⟩
theorem Tryd.lays345 : Go.Proofs.Lays.n345 Tryd.prog Tryd.lays345_ren := {
  mixed := by kernel_rfl
  f345 := Tryd.func102.trans (congrArg some (by kernel_rfl))
  t0 := Tryd.underlying0
  a0 := Tryd.isAgg0
  z0 := Tryd.sizeOf0
  v0 := Tryd.zeroValue0
  t3 := Tryd.underlying3
  a3 := Tryd.isAgg3
  z3 := Tryd.sizeOf3
  v3 := Tryd.zeroValue3
  t4 := Tryd.underlying4
  a4 := Tryd.isAgg4
  z4 := Tryd.sizeOf4
  v4 := Tryd.zeroValue4
  t46 := Tryd.underlying84
  a46 := Tryd.isAgg84
  z46 := Tryd.sizeOf84
  v46 := Tryd.zeroValue84
  t49 := Tryd.underlying135
  a49 := Tryd.isAgg135
  z49 := Tryd.sizeOf135
  v49 := Tryd.zeroValue135
  t234 := Tryd.underlying136
  a234 := Tryd.isAgg136
  z234 := Tryd.sizeOf136
  v234 := Tryd.zeroValue136 }
open Go.RowKit in
/-- strconv.bsearch[[]uint16,uint16]: a table of whatever numbers (sorted or not: WHAT IS SAID IS WHAT THE LOOP COMPUTES: 'Lib.bsearchI', 'Lib.bsearchFound'), at least one of them; draws alone (the last statement's order); nothing else turns. (LAID: no walk: one application.) -/
theorem Tryd.strconv_bsearch16 (R o c : Nat) (t : List Nat) (v : Nat) (w : World) (h0 : 0 < t.length) (hn : t.length ≤ 4611686018427387904) (hc : ∀ j, j < t.length → w.cell? ⟨R, o + j, none⟩ = some (.int .u16 (t.getD j 0))) :
    Calls Tryd.prog 102 #[.slice (some ⟨R, o, none⟩) t.length c, .int .u16 v] w fun e w' => e = .returned (.tuple #[.int .i64 (Lib.bsearchI t v), .bool (Lib.bsearchFound t v)]) ∧ ∃ q, w' = w.drewN q := Any.strconv_bsearch16 Tryd.lays345 R o c t v w h0 hn hc
def Tryd.lays346_ren : Go.Shelf.Ren := ⟨fun | 346 => 103 | n => n, fun | 236 => 139 | 51 => 138 | 3 => 3 | 4 => 4 | 46 => 84 | 0 => 0 | n => n, fun | n => n⟩
theorem Tryd.lays346 : Go.Proofs.Lays.n346 Tryd.prog Tryd.lays346_ren := {
  mixed := by kernel_rfl
  f346 := Tryd.func103.trans (congrArg some (by kernel_rfl))
  t0 := Tryd.underlying0
  a0 := Tryd.isAgg0
  z0 := Tryd.sizeOf0
  v0 := Tryd.zeroValue0
  t3 := Tryd.underlying3
  a3 := Tryd.isAgg3
  z3 := Tryd.sizeOf3
  v3 := Tryd.zeroValue3
  t4 := Tryd.underlying4
  a4 := Tryd.isAgg4
  z4 := Tryd.sizeOf4
  v4 := Tryd.zeroValue4
  t46 := Tryd.underlying84
  a46 := Tryd.isAgg84
  z46 := Tryd.sizeOf84
  v46 := Tryd.zeroValue84
  t51 := Tryd.underlying138
  a51 := Tryd.isAgg138
  z51 := Tryd.sizeOf138
  v51 := Tryd.zeroValue138
  t236 := Tryd.underlying139
  a236 := Tryd.isAgg139
  z236 := Tryd.sizeOf139
  v236 := Tryd.zeroValue139 }
open Go.RowKit in
/-- strconv.bsearch[[]uint32,uint32]: a table of whatever numbers (sorted or not: WHAT IS SAID IS WHAT THE LOOP COMPUTES: 'Lib.bsearchI', 'Lib.bsearchFound'), at least one of them; draws alone (the last statement's order); nothing else turns. (LAID: no walk: one application.) -/
theorem Tryd.strconv_bsearch32 (R o c : Nat) (t : List Nat) (v : Nat) (w : World) (h0 : 0 < t.length) (hn : t.length ≤ 4611686018427387904) (hc : ∀ j, j < t.length → w.cell? ⟨R, o + j, none⟩ = some (.int .u32 (t.getD j 0))) :
    Calls Tryd.prog 103 #[.slice (some ⟨R, o, none⟩) t.length c, .int .u32 v] w fun e w' => e = .returned (.tuple #[.int .i64 (Lib.bsearchI t v), .bool (Lib.bsearchFound t v)]) ∧ ∃ q, w' = w.drewN q := Any.strconv_bsearch32 Tryd.lays346 R o c t v w h0 hn hc
def Tryd.lays339_ren : Go.Shelf.Ren := ⟨fun | 339 => 94 | 345 => 102 | 346 => 103 | n => n, fun | 21 => 21 | 4 => 4 | 49 => 135 | 234 => 136 | 131 => 61 | 3 => 3 | 0 => 0 | 51 => 138 | 236 => 139 | 46 => 84 | n => n, fun | 20 => 6 | 21 => 7 | 22 => 8 | 23 => 9 | n => n⟩
theorem Tryd.lays339 : Go.Proofs.Lays.n339 Tryd.prog Tryd.lays339_ren := {
  mixed := by kernel_rfl
  f339 := Tryd.func94.trans (congrArg some (by kernel_rfl))
  f345 := Tryd.func102.trans (congrArg some (by kernel_rfl))
  f346 := Tryd.func103.trans (congrArg some (by kernel_rfl))
  t0 := Tryd.underlying0
  a0 := Tryd.isAgg0
  z0 := Tryd.sizeOf0
  v0 := Tryd.zeroValue0
  t3 := Tryd.underlying3
  a3 := Tryd.isAgg3
  z3 := Tryd.sizeOf3
  v3 := Tryd.zeroValue3
  t4 := Tryd.underlying4
  a4 := Tryd.isAgg4
  z4 := Tryd.sizeOf4
  v4 := Tryd.zeroValue4
  t21 := Tryd.underlying21
  a21 := Tryd.isAgg21
  z21 := Tryd.sizeOf21
  v21 := Tryd.zeroValue21
  t46 := Tryd.underlying84
  a46 := Tryd.isAgg84
  z46 := Tryd.sizeOf84
  v46 := Tryd.zeroValue84
  t49 := Tryd.underlying135
  a49 := Tryd.isAgg135
  z49 := Tryd.sizeOf135
  v49 := Tryd.zeroValue135
  t51 := Tryd.underlying138
  a51 := Tryd.isAgg138
  z51 := Tryd.sizeOf138
  v51 := Tryd.zeroValue138
  t131 := Tryd.underlying61
  a131 := Tryd.isAgg61
  z131 := Tryd.sizeOf61
  v131 := Tryd.zeroValue61
  t234 := Tryd.underlying136
  a234 := Tryd.isAgg136
  z234 := Tryd.sizeOf136
  v234 := Tryd.zeroValue136
  t236 := Tryd.underlying139
  a236 := Tryd.isAgg139
  z236 := Tryd.sizeOf139
  v236 := Tryd.zeroValue139
  g20 := by kernel_rfl
  g21 := by kernel_rfl
  g22 := by kernel_rfl
  g23 := by kernel_rfl }
open Go.RowKit in
/-- strconv.IsPrint AT r ≤ 0xFF, negative ones too ('Fast check for Latin-1'): no table is read; nothing turns. (LAID: no walk: one application.) -/
theorem Tryd.strconv_IsPrint_latin (r : Int) (w : World) (hr : r ≤ 255) :
    Calls Tryd.prog 94 #[.int .i32 r] w fun e w' => e = .returned (.bool (Lib.isPrintLatin r)) ∧ w' = w := Any.strconv_IsPrint_latin Tryd.lays339 r w hr
open Go.RowKit in
/-- strconv.IsPrint AT 0xFF < r < 0x10000: two of the four tables are read. (LAID: no walk: one application.) -/
theorem Tryd.strconv_IsPrint_16 (T : Lib.PrintTabs) (r : Nat) (w : World) (h1 : 255 < r) (h2 : r < 65536) (hT : Lib.PrintTabsAt 6 7 8 9 T w) :
    Calls Tryd.prog 94 #[.int .i32 r] w fun e w' => e = .returned (.bool (Lib.isPrintR T r)) ∧ ∃ q, w' = w.drewN q := Any.strconv_IsPrint_16 Tryd.lays339 T r w h1 h2 hT
open Go.RowKit in
/-- strconv.IsPrint AT 0xFFFF < r (an int32): the two other tables are read. (LAID: no walk: one application.) -/
theorem Tryd.strconv_IsPrint_32 (T : Lib.PrintTabs) (r : Nat) (w : World) (h1 : 65535 < r) (h2 : r < 2147483648) (hT : Lib.PrintTabsAt 6 7 8 9 T w) :
    Calls Tryd.prog 94 #[.int .i32 r] w fun e w' => e = .returned (.bool (Lib.isPrintR T r)) ∧ ∃ q, w' = w.drewN q := Any.strconv_IsPrint_32 Tryd.lays339 T r w h1 h2 hT
open Go.RowKit in
/-- strconv.IsPrint AT EVERY int32: 'Lib.isPrintR T r', the four tables as 'Lib.PrintTabsAt' says; draws alone. (LAID: no walk: one application.) -/
theorem Tryd.strconv_IsPrint (T : Lib.PrintTabs) (r : Int) (w : World) (hlo : -2147483648 ≤ r) (hhi : r ≤ 2147483647) (hT : Lib.PrintTabsAt 6 7 8 9 T w) :
    Calls Tryd.prog 94 #[.int .i32 r] w fun e w' => e = .returned (.bool (Lib.isPrintR T r)) ∧ ∃ q, w' = w.drewN q := Any.strconv_IsPrint Tryd.lays339 T r w hlo hhi hT
def Tryd.lays129_ren : Go.Shelf.Ren := ⟨fun | 129 => 112 | n => n, fun | 53 => 34 | 3 => 3 | 4 => 4 | 46 => 84 | 5 => 5 | 9 => 9 | n => n, fun | n => n⟩
theorem Tryd.lays129 : Go.Proofs.Lays.n129 Tryd.prog Tryd.lays129_ren := {
  mixed := by kernel_rfl
  f129 := Tryd.func112.trans (congrArg some (by kernel_rfl))
  t3 := Tryd.underlying3
  a3 := Tryd.isAgg3
  z3 := Tryd.sizeOf3
  v3 := Tryd.zeroValue3
  t4 := Tryd.underlying4
  a4 := Tryd.isAgg4
  z4 := Tryd.sizeOf4
  v4 := Tryd.zeroValue4
  t5 := Tryd.underlying5
  a5 := Tryd.isAgg5
  z5 := Tryd.sizeOf5
  v5 := Tryd.zeroValue5
  t9 := Tryd.underlying9
  a9 := Tryd.isAgg9
  z9 := Tryd.sizeOf9
  v9 := Tryd.zeroValue9
  t46 := Tryd.underlying84
  a46 := Tryd.isAgg84
  z46 := Tryd.sizeOf84
  v46 := Tryd.zeroValue84
  t53 := Tryd.underlying34
  a53 := Tryd.isAgg34
  z53 := Tryd.sizeOf34
  v53 := Tryd.zeroValue34 }
/-- bits.Len64: "Len64 returns the minimum number of bits required to represent x; the result is 0 for x == 0.": IT RETURNS 'Lib.bitLen x'; the world is as it was. ('h0', 'h1': x is a uint64.) (LAID: no walk: one application.) -/
theorem Tryd.bits_Len64 (x : Int) (w : World) (h0 : 0 ≤ x) (h1 : x ≤ 18446744073709551615) :
    Calls Tryd.prog 112 #[.int .u64 x] w fun e w' => e = .returned (.int .i64 (Lib.bitLen x.toNat)) ∧ w' = w := Any.bits_Len64 Tryd.lays129 x w h0 h1
def Tryd.lays317_ren : Go.Shelf.Ren := ⟨fun | 317 => 111 | n => n, fun | 3 => 3 | 46 => 84 | n => n, fun | n => n⟩
theorem Tryd.lays317 : Go.Proofs.Lays.n317 Tryd.prog Tryd.lays317_ren := {
  mixed := by kernel_rfl
  f317 := Tryd.func111.trans (congrArg some (by kernel_rfl))
  t3 := Tryd.underlying3
  a3 := Tryd.isAgg3
  z3 := Tryd.sizeOf3
  v3 := Tryd.zeroValue3
  t46 := Tryd.underlying84
  a46 := Tryd.isAgg84
  z46 := Tryd.sizeOf84
  v46 := Tryd.zeroValue84 }
open Go.Lib in
/-- internal/strconv.log10Pow2: "log10Pow2(x) returns ⌊log₁₀ 2**x⌋ = ⌊x * log₁₀ 2⌋.": '(x * 78913) >> 18', at an x up to 64 (a length in bits). The world is as it was. (LAID: no walk: one application.) -/
theorem Tryd.internal_strconv_log10Pow2 (x : Nat) (h : x ≤ 64) (w : World) :
    Calls Tryd.prog 111 #[.int .i64 x] w fun e w' => e = .returned (.int .i64 (Lib.l10 x)) ∧ w' = w := Any.internal_strconv_log10Pow2 Tryd.lays317 x h w
def Tryd.lays318_ren : Go.Shelf.Ren := ⟨fun | 318 => 113 | n => n, fun | 3 => 3 | 4 => 4 | n => n, fun | n => n⟩
theorem Tryd.lays318 : Go.Proofs.Lays.n318 Tryd.prog Tryd.lays318_ren := {
  mixed := by kernel_rfl
  f318 := Tryd.func113.trans (congrArg some (by kernel_rfl))
  t3 := Tryd.underlying3
  a3 := Tryd.isAgg3
  z3 := Tryd.sizeOf3
  v3 := Tryd.zeroValue3
  t4 := Tryd.underlying4
  a4 := Tryd.isAgg4
  z4 := Tryd.sizeOf4
  v4 := Tryd.zeroValue4 }
open Go.Lib in
/-- internal/strconv.bool2: "bool2 converts b to an integer: 1 for true, 0 for false." The world is as it was. (LAID: no walk: one application.) -/
theorem Tryd.internal_strconv_bool2_int (b : Bool) (w : World) :
    Calls Tryd.prog 113 #[.bool b] w fun e w' => e = .returned (.int .i64 (if b then 1 else 0)) ∧ w' = w := Any.internal_strconv_bool2_int Tryd.lays318 b w
def Tryd.lays283_ren : Go.Shelf.Ren := ⟨fun | 283 => 107 | n => n, fun | 3 => 3 | 9 => 9 | 4 => 4 | n => n, fun | n => n⟩
theorem Tryd.lays283 : Go.Proofs.Lays.n283 Tryd.prog Tryd.lays283_ren := {
  mixed := by kernel_rfl
  f283 := Tryd.func107.trans (congrArg some (by kernel_rfl))
  t3 := Tryd.underlying3
  a3 := Tryd.isAgg3
  z3 := Tryd.sizeOf3
  v3 := Tryd.zeroValue3
  t4 := Tryd.underlying4
  a4 := Tryd.isAgg4
  z4 := Tryd.sizeOf4
  v4 := Tryd.zeroValue4
  t9 := Tryd.underlying9
  a9 := Tryd.isAgg9
  z9 := Tryd.sizeOf9
  v9 := Tryd.zeroValue9 }
open Go.Lib in
/-- internal/strconv.small: "small returns the string for an i with 0 <= i < nSmalls.": i's decimal numeral. The world is as it was. (LAID: no walk: one application.) -/
theorem Tryd.internal_strconv_small (i : Nat) (h : i < 100) (w : World) :
    Calls Tryd.prog 107 #[.int .i64 i] w fun e w' => e = .returned (.string ⟨(Lib.decDigits i).toArray⟩) ∧ w' = w := Any.internal_strconv_small Tryd.lays283 i h w
def Tryd.laysM284_ren : Go.Shelf.Ren := ⟨fun | 284 => 108 | 129 => 112 | 317 => 111 | 318 => 113 | n => n, fun | 53 => 34 | 3 => 3 | 212 => 150 | 0 => 0 | 4 => 4 | 46 => 84 | 5 => 5 | 9 => 9 | n => n, fun | 17 => 12 | n => n⟩
theorem Tryd.laysM284 : Go.Proofs.LaysM.n284 Tryd.prog Tryd.laysM284_ren := {
  mixed := by kernel_rfl
  f129 := Tryd.func112.trans (congrArg some (by kernel_rfl))
  f284 := Tryd.func108.trans (congrArg some (by kernel_rfl))
  f317 := Tryd.func111.trans (congrArg some (by kernel_rfl))
  f318 := Tryd.func113.trans (congrArg some (by kernel_rfl))
  t0 := Tryd.underlying0
  a0 := Tryd.isAgg0
  z0 := Tryd.sizeOf0
  v0 := Tryd.zeroValue0
  t3 := Tryd.underlying3
  a3 := Tryd.isAgg3
  z3 := Tryd.sizeOf3
  v3 := Tryd.zeroValue3
  t4 := Tryd.underlying4
  a4 := Tryd.isAgg4
  z4 := Tryd.sizeOf4
  v4 := Tryd.zeroValue4
  t5 := Tryd.underlying5
  a5 := Tryd.isAgg5
  z5 := Tryd.sizeOf5
  v5 := Tryd.zeroValue5
  t9 := Tryd.underlying9
  a9 := Tryd.isAgg9
  z9 := Tryd.sizeOf9
  v9 := Tryd.zeroValue9
  t46 := Tryd.underlying84
  a46 := Tryd.isAgg84
  z46 := Tryd.sizeOf84
  v46 := Tryd.zeroValue84
  t53 := Tryd.underlying34
  a53 := Tryd.isAgg34
  z53 := Tryd.sizeOf34
  v53 := Tryd.zeroValue34
  t212 := Tryd.underlying150
  a212 := Tryd.isAgg150
  z212 := Tryd.sizeOf150
  v212 := Tryd.zeroValue150
  g17 := by kernel_rfl
  i0 := by kernel_rfl
  i3 := by kernel_rfl
  i4 := by kernel_rfl
  i5 := by kernel_rfl
  i9 := by kernel_rfl
  i46 := by kernel_rfl
  i53 := by kernel_rfl
  i212 := by kernel_rfl
  m17 := by kernel_rfl }
open Go.Lib in
/-- internal/strconv.numDigits, at a d that is not 0: THE NUMBER OF d's DECIMAL DIGITS. The world is as it was. (LAID: no walk: one application.) -/
theorem Tryd.internal_strconv_numDigits (u : Nat) (h1 : 1 ≤ u) (h2 : u < 18446744073709551616) (w : World) (htab : Lib.TabIs Tryd.prog w "internal/strconv.uint64pow10" .u64 Lib.pow10Tab) :
    Calls Tryd.prog 108 #[.int .u64 u] w fun e w' => e = .returned (.int .i64 (Lib.nDigits u)) ∧ w' = w := Any.internal_strconv_numDigits Tryd.laysM284 u h1 h2 w htab
def Tryd.lays285_ren : Go.Shelf.Ren := ⟨fun | 285 => 109 | n => n, fun | 37 => 45 | 53 => 34 | 3 => 3 | 4 => 4 | 51 => 138 | 9 => 9 | 5 => 5 | 0 => 0 | n => n, fun | n => n⟩
theorem Tryd.lays285 : Go.Proofs.Lays.n285 Tryd.prog Tryd.lays285_ren := {
  mixed := by kernel_rfl
  f285 := Tryd.func109.trans (congrArg some (by kernel_rfl))
  t0 := Tryd.underlying0
  a0 := Tryd.isAgg0
  z0 := Tryd.sizeOf0
  v0 := Tryd.zeroValue0
  t3 := Tryd.underlying3
  a3 := Tryd.isAgg3
  z3 := Tryd.sizeOf3
  v3 := Tryd.zeroValue3
  t4 := Tryd.underlying4
  a4 := Tryd.isAgg4
  z4 := Tryd.sizeOf4
  v4 := Tryd.zeroValue4
  t5 := Tryd.underlying5
  a5 := Tryd.isAgg5
  z5 := Tryd.sizeOf5
  v5 := Tryd.zeroValue5
  t9 := Tryd.underlying9
  a9 := Tryd.isAgg9
  z9 := Tryd.sizeOf9
  v9 := Tryd.zeroValue9
  t37 := Tryd.underlying45
  a37 := Tryd.isAgg45
  z37 := Tryd.sizeOf45
  v37 := Tryd.zeroValue45
  t51 := Tryd.underlying138
  a51 := Tryd.isAgg138
  z51 := Tryd.sizeOf138
  v51 := Tryd.zeroValue138
  t53 := Tryd.underlying34
  a53 := Tryd.isAgg34
  z53 := Tryd.sizeOf34
  v53 := Tryd.zeroValue34 }
open Go.RowKit Go.Sort Go.Lib in
/-- internal/strconv.formatBase10: "formatBase10 formats the decimal representation of u into a. The caller is responsible for ensuring that a is big enough to hold u. If a is too big, leading zeros will be filled in as needed.": THE ROW HOLDS u's DIGITS ('FmtInv .. 0 ..': every place t holds 'dg u (len - 1 - t)'); all else is as it was but for the count of draws. (LAID: no walk: one application.) -/
theorem Tryd.internal_strconv_formatBase10 (blk off cap : Nat) (u : Nat) (d : Array UInt8) (w : World) (hH : Holds (fun (b : UInt8) => Value.int .u8 (b.toNat : Int)) w blk off d) (hu : u < 10 ^ d.size) (hu64 : u < 18446744073709551616) (hsz : d.size < 4611686018427387904) :
    Calls Tryd.prog 109 #[.slice (some ⟨blk, off, none⟩) d.size cap, .int .u64 u] w fun e w' =>
      e = .returned (.tuple #[]) ∧ ∃ (n v' : Nat) (dk : Array UInt8), w' = (putRow (fun (b : UInt8) => Value.int .u8 (b.toNat : Int)) w blk off dk).drewN n ∧ FmtInv d.size u 0 v' dk := Any.internal_strconv_formatBase10 Tryd.lays285 blk off cap u d w hH hu hu64 hsz
def Tryd.laysM246_ren : Go.Shelf.Ren := ⟨fun | 246 => 106 | 283 => 107 | 284 => 108 | 285 => 109 | 286 => 110 | 129 => 112 | 317 => 111 | 318 => 113 | 319 => 114 | 320 => 115 | 337 => 116 | 338 => 117 | n => n, fun | 2 => 2 | 3 => 3 | 9 => 9 | 4 => 4 | 171 => 143 | 0 => 0 | 53 => 34 | 37 => 45 | 5 => 5 | 173 => 146 | 212 => 150 | 51 => 138 | 20 => 20 | 213 => 151 | 46 => 84 | 232 => 154 | 233 => 155 | n => n, fun | 17 => 12 | 18 => 13 | 19 => 14 | n => n⟩
theorem Tryd.laysM246 : Go.Proofs.LaysM.n246 Tryd.prog Tryd.laysM246_ren := {
  mixed := by kernel_rfl
  f129 := Tryd.func112.trans (congrArg some (by kernel_rfl))
  f246 := Tryd.func106.trans (congrArg some (by kernel_rfl))
  f283 := Tryd.func107.trans (congrArg some (by kernel_rfl))
  f284 := Tryd.func108.trans (congrArg some (by kernel_rfl))
  f285 := Tryd.func109.trans (congrArg some (by kernel_rfl))
  f286 := Tryd.func110.trans (congrArg some (by kernel_rfl))
  f317 := Tryd.func111.trans (congrArg some (by kernel_rfl))
  f318 := Tryd.func113.trans (congrArg some (by kernel_rfl))
  f319 := Tryd.func114.trans (congrArg some (by kernel_rfl))
  f320 := Tryd.func115.trans (congrArg some (by kernel_rfl))
  f337 := Tryd.func116.trans (congrArg some (by kernel_rfl))
  f338 := Tryd.func117.trans (congrArg some (by kernel_rfl))
  t0 := Tryd.underlying0
  a0 := Tryd.isAgg0
  z0 := Tryd.sizeOf0
  v0 := Tryd.zeroValue0
  t2 := Tryd.underlying2
  a2 := Tryd.isAgg2
  z2 := Tryd.sizeOf2
  v2 := Tryd.zeroValue2
  t3 := Tryd.underlying3
  a3 := Tryd.isAgg3
  z3 := Tryd.sizeOf3
  v3 := Tryd.zeroValue3
  t4 := Tryd.underlying4
  a4 := Tryd.isAgg4
  z4 := Tryd.sizeOf4
  v4 := Tryd.zeroValue4
  t5 := Tryd.underlying5
  a5 := Tryd.isAgg5
  z5 := Tryd.sizeOf5
  v5 := Tryd.zeroValue5
  t9 := Tryd.underlying9
  a9 := Tryd.isAgg9
  z9 := Tryd.sizeOf9
  v9 := Tryd.zeroValue9
  t20 := Tryd.underlying20
  a20 := Tryd.isAgg20
  z20 := Tryd.sizeOf20
  v20 := Tryd.zeroValue20
  t37 := Tryd.underlying45
  a37 := Tryd.isAgg45
  z37 := Tryd.sizeOf45
  v37 := Tryd.zeroValue45
  t46 := Tryd.underlying84
  a46 := Tryd.isAgg84
  z46 := Tryd.sizeOf84
  v46 := Tryd.zeroValue84
  t51 := Tryd.underlying138
  a51 := Tryd.isAgg138
  z51 := Tryd.sizeOf138
  v51 := Tryd.zeroValue138
  t53 := Tryd.underlying34
  a53 := Tryd.isAgg34
  z53 := Tryd.sizeOf34
  v53 := Tryd.zeroValue34
  t171 := Tryd.underlying143
  a171 := Tryd.isAgg143
  z171 := Tryd.sizeOf143
  v171 := Tryd.zeroValue143
  t173 := Tryd.underlying146
  a173 := Tryd.isAgg146
  z173 := Tryd.sizeOf146
  v173 := Tryd.zeroValue146
  t212 := Tryd.underlying150
  a212 := Tryd.isAgg150
  z212 := Tryd.sizeOf150
  v212 := Tryd.zeroValue150
  t213 := Tryd.underlying151
  a213 := Tryd.isAgg151
  z213 := Tryd.sizeOf151
  t232 := Tryd.underlying154
  a232 := Tryd.isAgg154
  z232 := Tryd.sizeOf154
  v232 := Tryd.zeroValue154
  t233 := Tryd.underlying155
  a233 := Tryd.isAgg155
  z233 := Tryd.sizeOf155
  v233 := Tryd.zeroValue155
  g17 := by kernel_rfl
  g18 := by kernel_rfl
  g19 := by kernel_rfl
  i0 := by kernel_rfl
  i2 := by kernel_rfl
  i3 := by kernel_rfl
  i4 := by kernel_rfl
  i5 := by kernel_rfl
  i9 := by kernel_rfl
  i20 := by kernel_rfl
  i37 := by kernel_rfl
  i46 := by kernel_rfl
  i51 := by kernel_rfl
  i53 := by kernel_rfl
  i171 := by kernel_rfl
  i173 := by kernel_rfl
  i212 := by kernel_rfl
  i232 := by kernel_rfl
  i233 := by kernel_rfl
  m17 := by kernel_rfl
  m18 := by kernel_rfl
  m19 := by kernel_rfl }
open Go.RowKit Go.Sort Go.Lib in
/-- internal/strconv.FormatInt: "FormatInt returns the string representation of i in the given base": AT BASE 10: i's decimal numeral, for every int64. The world behind the call: the world before it, new blocks behind the heap, draws. (LAID: no walk: one application.) -/
theorem Tryd.internal_strconv_FormatInt_10 (n : Int) (h0 : -9223372036854775808 ≤ n) (h1 : n ≤ 9223372036854775807) (w : World) (htab : Lib.TabIs Tryd.prog w "internal/strconv.uint64pow10" .u64 Lib.pow10Tab) :
    Calls Tryd.prog 106 #[.int .i64 n, .int .i64 10] w fun e w' => e = .returned (.string ⟨(Lib.itoa n).toArray⟩) ∧ ∃ k os, w' = grow (w.drewN k) os := Any.internal_strconv_FormatInt_10 Tryd.laysM246 n h0 h1 w htab
def Tryd.lays246_ren : Go.Shelf.Ren := ⟨fun | 246 => 106 | 283 => 107 | 284 => 108 | 285 => 109 | 286 => 110 | 129 => 112 | 317 => 111 | 318 => 113 | 319 => 114 | 320 => 115 | 337 => 116 | 338 => 117 | n => n, fun | 2 => 2 | 3 => 3 | 9 => 9 | 4 => 4 | 171 => 143 | 0 => 0 | 53 => 34 | 37 => 45 | 5 => 5 | 173 => 146 | 212 => 150 | 51 => 138 | 20 => 20 | 213 => 151 | 46 => 84 | 232 => 154 | 233 => 155 | n => n, fun | 17 => 12 | 18 => 13 | 19 => 14 | n => n⟩
theorem Tryd.lays246 : Go.Proofs.Lays.n246 Tryd.prog Tryd.lays246_ren := {
  mixed := by kernel_rfl
  f129 := Tryd.func112.trans (congrArg some (by kernel_rfl))
  f246 := Tryd.func106.trans (congrArg some (by kernel_rfl))
  f283 := Tryd.func107.trans (congrArg some (by kernel_rfl))
  f284 := Tryd.func108.trans (congrArg some (by kernel_rfl))
  f285 := Tryd.func109.trans (congrArg some (by kernel_rfl))
  f286 := Tryd.func110.trans (congrArg some (by kernel_rfl))
  f317 := Tryd.func111.trans (congrArg some (by kernel_rfl))
  f318 := Tryd.func113.trans (congrArg some (by kernel_rfl))
  f319 := Tryd.func114.trans (congrArg some (by kernel_rfl))
  f320 := Tryd.func115.trans (congrArg some (by kernel_rfl))
  f337 := Tryd.func116.trans (congrArg some (by kernel_rfl))
  f338 := Tryd.func117.trans (congrArg some (by kernel_rfl))
  t0 := Tryd.underlying0
  a0 := Tryd.isAgg0
  z0 := Tryd.sizeOf0
  v0 := Tryd.zeroValue0
  t2 := Tryd.underlying2
  a2 := Tryd.isAgg2
  z2 := Tryd.sizeOf2
  v2 := Tryd.zeroValue2
  t3 := Tryd.underlying3
  a3 := Tryd.isAgg3
  z3 := Tryd.sizeOf3
  v3 := Tryd.zeroValue3
  t4 := Tryd.underlying4
  a4 := Tryd.isAgg4
  z4 := Tryd.sizeOf4
  v4 := Tryd.zeroValue4
  t5 := Tryd.underlying5
  a5 := Tryd.isAgg5
  z5 := Tryd.sizeOf5
  v5 := Tryd.zeroValue5
  t9 := Tryd.underlying9
  a9 := Tryd.isAgg9
  z9 := Tryd.sizeOf9
  v9 := Tryd.zeroValue9
  t20 := Tryd.underlying20
  a20 := Tryd.isAgg20
  z20 := Tryd.sizeOf20
  v20 := Tryd.zeroValue20
  t37 := Tryd.underlying45
  a37 := Tryd.isAgg45
  z37 := Tryd.sizeOf45
  v37 := Tryd.zeroValue45
  t46 := Tryd.underlying84
  a46 := Tryd.isAgg84
  z46 := Tryd.sizeOf84
  v46 := Tryd.zeroValue84
  t51 := Tryd.underlying138
  a51 := Tryd.isAgg138
  z51 := Tryd.sizeOf138
  v51 := Tryd.zeroValue138
  t53 := Tryd.underlying34
  a53 := Tryd.isAgg34
  z53 := Tryd.sizeOf34
  v53 := Tryd.zeroValue34
  t171 := Tryd.underlying143
  a171 := Tryd.isAgg143
  z171 := Tryd.sizeOf143
  v171 := Tryd.zeroValue143
  t173 := Tryd.underlying146
  a173 := Tryd.isAgg146
  z173 := Tryd.sizeOf146
  v173 := Tryd.zeroValue146
  t212 := Tryd.underlying150
  a212 := Tryd.isAgg150
  z212 := Tryd.sizeOf150
  v212 := Tryd.zeroValue150
  t213 := Tryd.underlying151
  a213 := Tryd.isAgg151
  z213 := Tryd.sizeOf151
  t232 := Tryd.underlying154
  a232 := Tryd.isAgg154
  z232 := Tryd.sizeOf154
  v232 := Tryd.zeroValue154
  t233 := Tryd.underlying155
  a233 := Tryd.isAgg155
  z233 := Tryd.sizeOf155
  v233 := Tryd.zeroValue155
  g17 := by kernel_rfl
  g18 := by kernel_rfl
  g19 := by kernel_rfl }
open Go.RowKit Go.Sort Go.Lib in
/-- THE ROAD WITHOUT THE TABLE: 0 <= i < 100: two constants are read, nothing is laid: no premise on the world, and the world is as it was. (LAID: no walk: one application.) -/
theorem Tryd.internal_strconv_FormatInt_10_small (i : Nat) (hi : i < 100) (w : World) :
    Calls Tryd.prog 106 #[.int .i64 i, .int .i64 10] w fun e w' => e = .returned (.string ⟨(Lib.decDigits i).toArray⟩) ∧ w' = w := Any.internal_strconv_FormatInt_10_small Tryd.lays246 i hi w
def Tryd.laysM243_ren : Go.Shelf.Ren := ⟨fun | 243 => 105 | 246 => 106 | 283 => 107 | 284 => 108 | 285 => 109 | 286 => 110 | 129 => 112 | 317 => 111 | 318 => 113 | 319 => 114 | 320 => 115 | 337 => 116 | 338 => 117 | n => n, fun | 3 => 3 | 9 => 9 | 2 => 2 | 4 => 4 | 171 => 143 | 0 => 0 | 53 => 34 | 37 => 45 | 5 => 5 | 173 => 146 | 212 => 150 | 51 => 138 | 20 => 20 | 213 => 151 | 46 => 84 | 232 => 154 | 233 => 155 | n => n, fun | 17 => 12 | 18 => 13 | 19 => 14 | n => n⟩
theorem Tryd.laysM243 : Go.Proofs.LaysM.n243 Tryd.prog Tryd.laysM243_ren := {
  mixed := by kernel_rfl
  f129 := Tryd.func112.trans (congrArg some (by kernel_rfl))
  f243 := Tryd.func105.trans (congrArg some (by kernel_rfl))
  f246 := Tryd.func106.trans (congrArg some (by kernel_rfl))
  f283 := Tryd.func107.trans (congrArg some (by kernel_rfl))
  f284 := Tryd.func108.trans (congrArg some (by kernel_rfl))
  f285 := Tryd.func109.trans (congrArg some (by kernel_rfl))
  f286 := Tryd.func110.trans (congrArg some (by kernel_rfl))
  f317 := Tryd.func111.trans (congrArg some (by kernel_rfl))
  f318 := Tryd.func113.trans (congrArg some (by kernel_rfl))
  f319 := Tryd.func114.trans (congrArg some (by kernel_rfl))
  f320 := Tryd.func115.trans (congrArg some (by kernel_rfl))
  f337 := Tryd.func116.trans (congrArg some (by kernel_rfl))
  f338 := Tryd.func117.trans (congrArg some (by kernel_rfl))
  t0 := Tryd.underlying0
  a0 := Tryd.isAgg0
  z0 := Tryd.sizeOf0
  v0 := Tryd.zeroValue0
  t2 := Tryd.underlying2
  a2 := Tryd.isAgg2
  z2 := Tryd.sizeOf2
  v2 := Tryd.zeroValue2
  t3 := Tryd.underlying3
  a3 := Tryd.isAgg3
  z3 := Tryd.sizeOf3
  v3 := Tryd.zeroValue3
  t4 := Tryd.underlying4
  a4 := Tryd.isAgg4
  z4 := Tryd.sizeOf4
  v4 := Tryd.zeroValue4
  t5 := Tryd.underlying5
  a5 := Tryd.isAgg5
  z5 := Tryd.sizeOf5
  v5 := Tryd.zeroValue5
  t9 := Tryd.underlying9
  a9 := Tryd.isAgg9
  z9 := Tryd.sizeOf9
  v9 := Tryd.zeroValue9
  t20 := Tryd.underlying20
  a20 := Tryd.isAgg20
  z20 := Tryd.sizeOf20
  v20 := Tryd.zeroValue20
  t37 := Tryd.underlying45
  a37 := Tryd.isAgg45
  z37 := Tryd.sizeOf45
  v37 := Tryd.zeroValue45
  t46 := Tryd.underlying84
  a46 := Tryd.isAgg84
  z46 := Tryd.sizeOf84
  v46 := Tryd.zeroValue84
  t51 := Tryd.underlying138
  a51 := Tryd.isAgg138
  z51 := Tryd.sizeOf138
  v51 := Tryd.zeroValue138
  t53 := Tryd.underlying34
  a53 := Tryd.isAgg34
  z53 := Tryd.sizeOf34
  v53 := Tryd.zeroValue34
  t171 := Tryd.underlying143
  a171 := Tryd.isAgg143
  z171 := Tryd.sizeOf143
  v171 := Tryd.zeroValue143
  t173 := Tryd.underlying146
  a173 := Tryd.isAgg146
  z173 := Tryd.sizeOf146
  v173 := Tryd.zeroValue146
  t212 := Tryd.underlying150
  a212 := Tryd.isAgg150
  z212 := Tryd.sizeOf150
  v212 := Tryd.zeroValue150
  t213 := Tryd.underlying151
  a213 := Tryd.isAgg151
  z213 := Tryd.sizeOf151
  t232 := Tryd.underlying154
  a232 := Tryd.isAgg154
  z232 := Tryd.sizeOf154
  v232 := Tryd.zeroValue154
  t233 := Tryd.underlying155
  a233 := Tryd.isAgg155
  z233 := Tryd.sizeOf155
  v233 := Tryd.zeroValue155
  g17 := by kernel_rfl
  g18 := by kernel_rfl
  g19 := by kernel_rfl
  i0 := by kernel_rfl
  i2 := by kernel_rfl
  i3 := by kernel_rfl
  i4 := by kernel_rfl
  i5 := by kernel_rfl
  i9 := by kernel_rfl
  i20 := by kernel_rfl
  i37 := by kernel_rfl
  i46 := by kernel_rfl
  i51 := by kernel_rfl
  i53 := by kernel_rfl
  i171 := by kernel_rfl
  i173 := by kernel_rfl
  i212 := by kernel_rfl
  i232 := by kernel_rfl
  i233 := by kernel_rfl
  m17 := by kernel_rfl
  m18 := by kernel_rfl
  m19 := by kernel_rfl }
open Go.RowKit Go.Sort Go.Lib in
/-- internal/strconv.Itoa: "Itoa is equivalent to FormatInt(int64(i), 10).": i's decimal numeral, for every int. (LAID: no walk: one application.) -/
theorem Tryd.internal_strconv_Itoa (n : Int) (h0 : -9223372036854775808 ≤ n) (h1 : n ≤ 9223372036854775807) (w : World) (htab : Lib.TabIs Tryd.prog w "internal/strconv.uint64pow10" .u64 Lib.pow10Tab) :
    Calls Tryd.prog 105 #[.int .i64 n] w fun e w' => e = .returned (.string ⟨(Lib.itoa n).toArray⟩) ∧ ∃ k os, w' = grow (w.drewN k) os := Any.internal_strconv_Itoa Tryd.laysM243 n h0 h1 w htab
def Tryd.lays243_ren : Go.Shelf.Ren := ⟨fun | 243 => 105 | 246 => 106 | 283 => 107 | 284 => 108 | 285 => 109 | 286 => 110 | 129 => 112 | 317 => 111 | 318 => 113 | 319 => 114 | 320 => 115 | 337 => 116 | 338 => 117 | n => n, fun | 3 => 3 | 9 => 9 | 2 => 2 | 4 => 4 | 171 => 143 | 0 => 0 | 53 => 34 | 37 => 45 | 5 => 5 | 173 => 146 | 212 => 150 | 51 => 138 | 20 => 20 | 213 => 151 | 46 => 84 | 232 => 154 | 233 => 155 | n => n, fun | 17 => 12 | 18 => 13 | 19 => 14 | n => n⟩
theorem Tryd.lays243 : Go.Proofs.Lays.n243 Tryd.prog Tryd.lays243_ren := {
  mixed := by kernel_rfl
  f129 := Tryd.func112.trans (congrArg some (by kernel_rfl))
  f243 := Tryd.func105.trans (congrArg some (by kernel_rfl))
  f246 := Tryd.func106.trans (congrArg some (by kernel_rfl))
  f283 := Tryd.func107.trans (congrArg some (by kernel_rfl))
  f284 := Tryd.func108.trans (congrArg some (by kernel_rfl))
  f285 := Tryd.func109.trans (congrArg some (by kernel_rfl))
  f286 := Tryd.func110.trans (congrArg some (by kernel_rfl))
  f317 := Tryd.func111.trans (congrArg some (by kernel_rfl))
  f318 := Tryd.func113.trans (congrArg some (by kernel_rfl))
  f319 := Tryd.func114.trans (congrArg some (by kernel_rfl))
  f320 := Tryd.func115.trans (congrArg some (by kernel_rfl))
  f337 := Tryd.func116.trans (congrArg some (by kernel_rfl))
  f338 := Tryd.func117.trans (congrArg some (by kernel_rfl))
  t0 := Tryd.underlying0
  a0 := Tryd.isAgg0
  z0 := Tryd.sizeOf0
  v0 := Tryd.zeroValue0
  t2 := Tryd.underlying2
  a2 := Tryd.isAgg2
  z2 := Tryd.sizeOf2
  v2 := Tryd.zeroValue2
  t3 := Tryd.underlying3
  a3 := Tryd.isAgg3
  z3 := Tryd.sizeOf3
  v3 := Tryd.zeroValue3
  t4 := Tryd.underlying4
  a4 := Tryd.isAgg4
  z4 := Tryd.sizeOf4
  v4 := Tryd.zeroValue4
  t5 := Tryd.underlying5
  a5 := Tryd.isAgg5
  z5 := Tryd.sizeOf5
  v5 := Tryd.zeroValue5
  t9 := Tryd.underlying9
  a9 := Tryd.isAgg9
  z9 := Tryd.sizeOf9
  v9 := Tryd.zeroValue9
  t20 := Tryd.underlying20
  a20 := Tryd.isAgg20
  z20 := Tryd.sizeOf20
  v20 := Tryd.zeroValue20
  t37 := Tryd.underlying45
  a37 := Tryd.isAgg45
  z37 := Tryd.sizeOf45
  v37 := Tryd.zeroValue45
  t46 := Tryd.underlying84
  a46 := Tryd.isAgg84
  z46 := Tryd.sizeOf84
  v46 := Tryd.zeroValue84
  t51 := Tryd.underlying138
  a51 := Tryd.isAgg138
  z51 := Tryd.sizeOf138
  v51 := Tryd.zeroValue138
  t53 := Tryd.underlying34
  a53 := Tryd.isAgg34
  z53 := Tryd.sizeOf34
  v53 := Tryd.zeroValue34
  t171 := Tryd.underlying143
  a171 := Tryd.isAgg143
  z171 := Tryd.sizeOf143
  v171 := Tryd.zeroValue143
  t173 := Tryd.underlying146
  a173 := Tryd.isAgg146
  z173 := Tryd.sizeOf146
  v173 := Tryd.zeroValue146
  t212 := Tryd.underlying150
  a212 := Tryd.isAgg150
  z212 := Tryd.sizeOf150
  v212 := Tryd.zeroValue150
  t213 := Tryd.underlying151
  a213 := Tryd.isAgg151
  z213 := Tryd.sizeOf151
  t232 := Tryd.underlying154
  a232 := Tryd.isAgg154
  z232 := Tryd.sizeOf154
  v232 := Tryd.zeroValue154
  t233 := Tryd.underlying155
  a233 := Tryd.isAgg155
  z233 := Tryd.sizeOf155
  v233 := Tryd.zeroValue155
  g17 := by kernel_rfl
  g18 := by kernel_rfl
  g19 := by kernel_rfl }
open Go.RowKit Go.Sort Go.Lib in
/-- THE ROAD WITHOUT THE TABLE: 0 <= i < 100. (LAID: no walk: one application.) -/
theorem Tryd.internal_strconv_Itoa_small (i : Nat) (hi : i < 100) (w : World) :
    Calls Tryd.prog 105 #[.int .i64 i] w fun e w' => e = .returned (.string ⟨(Lib.decDigits i).toArray⟩) ∧ w' = w := Any.internal_strconv_Itoa_small Tryd.lays243 i hi w
def Tryd.laysM171_ren : Go.Shelf.Ren := ⟨fun | 171 => 99 | 243 => 105 | 246 => 106 | 283 => 107 | 284 => 108 | 285 => 109 | 286 => 110 | 129 => 112 | 317 => 111 | 318 => 113 | 319 => 114 | 320 => 115 | 337 => 116 | 338 => 117 | n => n, fun | 3 => 3 | 9 => 9 | 2 => 2 | 4 => 4 | 171 => 143 | 0 => 0 | 53 => 34 | 37 => 45 | 5 => 5 | 173 => 146 | 212 => 150 | 51 => 138 | 20 => 20 | 213 => 151 | 46 => 84 | 232 => 154 | 233 => 155 | n => n, fun | 17 => 12 | 18 => 13 | 19 => 14 | n => n⟩
theorem Tryd.laysM171 : Go.Proofs.LaysM.n171 Tryd.prog Tryd.laysM171_ren := {
  mixed := by kernel_rfl
  f129 := Tryd.func112.trans (congrArg some (by kernel_rfl))
  f171 := Tryd.func99.trans (congrArg some (by kernel_rfl))
  f243 := Tryd.func105.trans (congrArg some (by kernel_rfl))
  f246 := Tryd.func106.trans (congrArg some (by kernel_rfl))
  f283 := Tryd.func107.trans (congrArg some (by kernel_rfl))
  f284 := Tryd.func108.trans (congrArg some (by kernel_rfl))
  f285 := Tryd.func109.trans (congrArg some (by kernel_rfl))
  f286 := Tryd.func110.trans (congrArg some (by kernel_rfl))
  f317 := Tryd.func111.trans (congrArg some (by kernel_rfl))
  f318 := Tryd.func113.trans (congrArg some (by kernel_rfl))
  f319 := Tryd.func114.trans (congrArg some (by kernel_rfl))
  f320 := Tryd.func115.trans (congrArg some (by kernel_rfl))
  f337 := Tryd.func116.trans (congrArg some (by kernel_rfl))
  f338 := Tryd.func117.trans (congrArg some (by kernel_rfl))
  t0 := Tryd.underlying0
  a0 := Tryd.isAgg0
  z0 := Tryd.sizeOf0
  v0 := Tryd.zeroValue0
  t2 := Tryd.underlying2
  a2 := Tryd.isAgg2
  z2 := Tryd.sizeOf2
  v2 := Tryd.zeroValue2
  t3 := Tryd.underlying3
  a3 := Tryd.isAgg3
  z3 := Tryd.sizeOf3
  v3 := Tryd.zeroValue3
  t4 := Tryd.underlying4
  a4 := Tryd.isAgg4
  z4 := Tryd.sizeOf4
  v4 := Tryd.zeroValue4
  t5 := Tryd.underlying5
  a5 := Tryd.isAgg5
  z5 := Tryd.sizeOf5
  v5 := Tryd.zeroValue5
  t9 := Tryd.underlying9
  a9 := Tryd.isAgg9
  z9 := Tryd.sizeOf9
  v9 := Tryd.zeroValue9
  t20 := Tryd.underlying20
  a20 := Tryd.isAgg20
  z20 := Tryd.sizeOf20
  v20 := Tryd.zeroValue20
  t37 := Tryd.underlying45
  a37 := Tryd.isAgg45
  z37 := Tryd.sizeOf45
  v37 := Tryd.zeroValue45
  t46 := Tryd.underlying84
  a46 := Tryd.isAgg84
  z46 := Tryd.sizeOf84
  v46 := Tryd.zeroValue84
  t51 := Tryd.underlying138
  a51 := Tryd.isAgg138
  z51 := Tryd.sizeOf138
  v51 := Tryd.zeroValue138
  t53 := Tryd.underlying34
  a53 := Tryd.isAgg34
  z53 := Tryd.sizeOf34
  v53 := Tryd.zeroValue34
  t171 := Tryd.underlying143
  a171 := Tryd.isAgg143
  z171 := Tryd.sizeOf143
  v171 := Tryd.zeroValue143
  t173 := Tryd.underlying146
  a173 := Tryd.isAgg146
  z173 := Tryd.sizeOf146
  v173 := Tryd.zeroValue146
  t212 := Tryd.underlying150
  a212 := Tryd.isAgg150
  z212 := Tryd.sizeOf150
  v212 := Tryd.zeroValue150
  t213 := Tryd.underlying151
  a213 := Tryd.isAgg151
  z213 := Tryd.sizeOf151
  t232 := Tryd.underlying154
  a232 := Tryd.isAgg154
  z232 := Tryd.sizeOf154
  v232 := Tryd.zeroValue154
  t233 := Tryd.underlying155
  a233 := Tryd.isAgg155
  z233 := Tryd.sizeOf155
  v233 := Tryd.zeroValue155
  g17 := by kernel_rfl
  g18 := by kernel_rfl
  g19 := by kernel_rfl
  i0 := by kernel_rfl
  i2 := by kernel_rfl
  i3 := by kernel_rfl
  i4 := by kernel_rfl
  i5 := by kernel_rfl
  i9 := by kernel_rfl
  i20 := by kernel_rfl
  i37 := by kernel_rfl
  i46 := by kernel_rfl
  i51 := by kernel_rfl
  i53 := by kernel_rfl
  i171 := by kernel_rfl
  i173 := by kernel_rfl
  i212 := by kernel_rfl
  i232 := by kernel_rfl
  i233 := by kernel_rfl
  m17 := by kernel_rfl
  m18 := by kernel_rfl
  m19 := by kernel_rfl }
open Go.RowKit Go.Sort Go.Lib in
/-- strconv.Itoa: "Itoa is equivalent to FormatInt(int64(i), 10).": i's DECIMAL NUMERAL ('Lib.itoa': a '-' where i is negative, then the digits), FOR EVERY int. The world behind the call: the world before it, new blocks behind the heap (the library's 'var a [24]byte'), draws. (LAID: no walk: one application.) -/
theorem Tryd.strconv_Itoa (n : Int) (h0 : -9223372036854775808 ≤ n) (h1 : n ≤ 9223372036854775807) (w : World) (htab : Lib.TabIs Tryd.prog w "internal/strconv.uint64pow10" .u64 Lib.pow10Tab) :
    Calls Tryd.prog 99 #[.int .i64 n] w fun e w' => e = .returned (.string ⟨(Lib.itoa n).toArray⟩) ∧ ∃ k os, w' = grow (w.drewN k) os := Any.strconv_Itoa Tryd.laysM171 n h0 h1 w htab
def Tryd.lays171_ren : Go.Shelf.Ren := ⟨fun | 171 => 99 | 243 => 105 | 246 => 106 | 283 => 107 | 284 => 108 | 285 => 109 | 286 => 110 | 129 => 112 | 317 => 111 | 318 => 113 | 319 => 114 | 320 => 115 | 337 => 116 | 338 => 117 | n => n, fun | 3 => 3 | 9 => 9 | 2 => 2 | 4 => 4 | 171 => 143 | 0 => 0 | 53 => 34 | 37 => 45 | 5 => 5 | 173 => 146 | 212 => 150 | 51 => 138 | 20 => 20 | 213 => 151 | 46 => 84 | 232 => 154 | 233 => 155 | n => n, fun | 17 => 12 | 18 => 13 | 19 => 14 | n => n⟩
theorem Tryd.lays171 : Go.Proofs.Lays.n171 Tryd.prog Tryd.lays171_ren := {
  mixed := by kernel_rfl
  f129 := Tryd.func112.trans (congrArg some (by kernel_rfl))
  f171 := Tryd.func99.trans (congrArg some (by kernel_rfl))
  f243 := Tryd.func105.trans (congrArg some (by kernel_rfl))
  f246 := Tryd.func106.trans (congrArg some (by kernel_rfl))
  f283 := Tryd.func107.trans (congrArg some (by kernel_rfl))
  f284 := Tryd.func108.trans (congrArg some (by kernel_rfl))
  f285 := Tryd.func109.trans (congrArg some (by kernel_rfl))
  f286 := Tryd.func110.trans (congrArg some (by kernel_rfl))
  f317 := Tryd.func111.trans (congrArg some (by kernel_rfl))
  f318 := Tryd.func113.trans (congrArg some (by kernel_rfl))
  f319 := Tryd.func114.trans (congrArg some (by kernel_rfl))
  f320 := Tryd.func115.trans (congrArg some (by kernel_rfl))
  f337 := Tryd.func116.trans (congrArg some (by kernel_rfl))
  f338 := Tryd.func117.trans (congrArg some (by kernel_rfl))
  t0 := Tryd.underlying0
  a0 := Tryd.isAgg0
  z0 := Tryd.sizeOf0
  v0 := Tryd.zeroValue0
  t2 := Tryd.underlying2
  a2 := Tryd.isAgg2
  z2 := Tryd.sizeOf2
  v2 := Tryd.zeroValue2
  t3 := Tryd.underlying3
  a3 := Tryd.isAgg3
  z3 := Tryd.sizeOf3
  v3 := Tryd.zeroValue3
  t4 := Tryd.underlying4
  a4 := Tryd.isAgg4
  z4 := Tryd.sizeOf4
  v4 := Tryd.zeroValue4
  t5 := Tryd.underlying5
  a5 := Tryd.isAgg5
  z5 := Tryd.sizeOf5
  v5 := Tryd.zeroValue5
  t9 := Tryd.underlying9
  a9 := Tryd.isAgg9
  z9 := Tryd.sizeOf9
  v9 := Tryd.zeroValue9
  t20 := Tryd.underlying20
  a20 := Tryd.isAgg20
  z20 := Tryd.sizeOf20
  v20 := Tryd.zeroValue20
  t37 := Tryd.underlying45
  a37 := Tryd.isAgg45
  z37 := Tryd.sizeOf45
  v37 := Tryd.zeroValue45
  t46 := Tryd.underlying84
  a46 := Tryd.isAgg84
  z46 := Tryd.sizeOf84
  v46 := Tryd.zeroValue84
  t51 := Tryd.underlying138
  a51 := Tryd.isAgg138
  z51 := Tryd.sizeOf138
  v51 := Tryd.zeroValue138
  t53 := Tryd.underlying34
  a53 := Tryd.isAgg34
  z53 := Tryd.sizeOf34
  v53 := Tryd.zeroValue34
  t171 := Tryd.underlying143
  a171 := Tryd.isAgg143
  z171 := Tryd.sizeOf143
  v171 := Tryd.zeroValue143
  t173 := Tryd.underlying146
  a173 := Tryd.isAgg146
  z173 := Tryd.sizeOf146
  v173 := Tryd.zeroValue146
  t212 := Tryd.underlying150
  a212 := Tryd.isAgg150
  z212 := Tryd.sizeOf150
  v212 := Tryd.zeroValue150
  t213 := Tryd.underlying151
  a213 := Tryd.isAgg151
  z213 := Tryd.sizeOf151
  t232 := Tryd.underlying154
  a232 := Tryd.isAgg154
  z232 := Tryd.sizeOf154
  v232 := Tryd.zeroValue154
  t233 := Tryd.underlying155
  a233 := Tryd.isAgg155
  z233 := Tryd.sizeOf155
  v233 := Tryd.zeroValue155
  g17 := by kernel_rfl
  g18 := by kernel_rfl
  g19 := by kernel_rfl }
open Go.RowKit Go.Sort Go.Lib in
/-- THE ROAD WITHOUT THE TABLE: 0 <= i < 100: NO PREMISE ON THE WORLD, AND THE WORLD IS AS IT WAS: a row that keeps its argument in that range need list no table ('laid = []'). (LAID: no walk: one application.) -/
theorem Tryd.strconv_Itoa_small (i : Nat) (hi : i < 100) (w : World) :
    Calls Tryd.prog 99 #[.int .i64 i] w fun e w' => e = .returned (.string ⟨(Lib.decDigits i).toArray⟩) ∧ w' = w := Any.strconv_Itoa_small Tryd.lays171 i hi w
def Tryd.laysM316_ren : Go.Shelf.Ren := ⟨fun | 316 => 98 | n => n, fun | 9 => 9 | 3 => 3 | 4 => 4 | 37 => 45 | 0 => 0 | 127 => 141 | 5 => 5 | n => n, fun | n => n⟩
theorem Tryd.laysM316 : Go.Proofs.LaysM.n316 Tryd.prog Tryd.laysM316_ren := {
  mixed := by kernel_rfl
  f316 := Tryd.func98.trans (congrArg some (by kernel_rfl))
  t0 := Tryd.underlying0
  a0 := Tryd.isAgg0
  z0 := Tryd.sizeOf0
  v0 := Tryd.zeroValue0
  t3 := Tryd.underlying3
  a3 := Tryd.isAgg3
  z3 := Tryd.sizeOf3
  v3 := Tryd.zeroValue3
  t4 := Tryd.underlying4
  a4 := Tryd.isAgg4
  z4 := Tryd.sizeOf4
  v4 := Tryd.zeroValue4
  t9 := Tryd.underlying9
  a9 := Tryd.isAgg9
  z9 := Tryd.sizeOf9
  v9 := Tryd.zeroValue9
  t37 := Tryd.underlying45
  a37 := Tryd.isAgg45
  z37 := Tryd.sizeOf45
  v37 := Tryd.zeroValue45
  t127 := Tryd.underlying141
  a127 := Tryd.isAgg141
  z127 := Tryd.sizeOf141
  v127 := Tryd.zeroValue141
  t5 := Tryd.underlying5
  a5 := Tryd.isAgg5
  z5 := Tryd.sizeOf5
  v5 := Tryd.zeroValue5
  i0 := by kernel_rfl
  i3 := by kernel_rfl
  i4 := by kernel_rfl
  i5 := by kernel_rfl
  i9 := by kernel_rfl
  i37 := by kernel_rfl
  i127 := by kernel_rfl }
open Go.RowKit in
/-- internal/stringslite.Clone (what strings.Clone calls): "Clone returns a fresh copy of s.": THE SAME BYTES. Of what was there nothing has turned (a new row is laid, and frozen, where s is not empty). (LAID: no walk: one application.) -/
theorem Tryd.stringslite_Clone (s : ByteArray) (w : World) (hlim : s.size ≤ 281474976710656) :
    Calls Tryd.prog 98 #[.string s] w fun e w' => e = .returned (.string s) ∧ Below w.heap.size w w' := Any.stringslite_Clone Tryd.laysM316 s w hlim
def Tryd.laysBin33_ren : Go.Shelf.Ren := ⟨fun | 33 => 92 | n => n, fun | 25 => 125 | 22 => 45 | 33 => 34 | 0 => 0 | 5 => 5 | 45 => 84 | n => n, fun | n => n⟩
theorem Tryd.laysBin33 : Go.Proofs.LaysBin.n33 Tryd.prog Tryd.laysBin33_ren := {
  mixed := by kernel_rfl
  f33 := Tryd.func92.trans (congrArg some (by kernel_rfl))
  t0 := Tryd.underlying0
  a0 := Tryd.isAgg0
  z0 := Tryd.sizeOf0
  v0 := Tryd.zeroValue0
  i0 := by kernel_rfl
  t5 := Tryd.underlying5
  a5 := Tryd.isAgg5
  z5 := Tryd.sizeOf5
  v5 := Tryd.zeroValue5
  i5 := by kernel_rfl
  t22 := Tryd.underlying45
  a22 := Tryd.isAgg45
  z22 := Tryd.sizeOf45
  v22 := Tryd.zeroValue45
  i22 := by kernel_rfl
  t25 := Tryd.underlying125
  a25 := Tryd.isAgg125
  z25 := Tryd.sizeOf125
  v25 := Tryd.zeroValue125
  i25 := by kernel_rfl
  t33 := Tryd.underlying34
  a33 := Tryd.isAgg34
  z33 := Tryd.sizeOf34
  v33 := Tryd.zeroValue34
  i33 := by kernel_rfl
  t45 := Tryd.underlying84
  a45 := Tryd.isAgg84
  z45 := Tryd.sizeOf84
  v45 := Tryd.zeroValue84
  i45 := by kernel_rfl }
open Go.RowKit in
/-- binary.LittleEndian.Uint64: "Uint64 returns the uint64 representation of b[0:8].": THE NUMBER THAT THE FIRST 8 BYTES SPELL, the least byte first ('Lib.leNat'). Of what was there nothing has turned (the receiver, an empty struct, is laid in a new block without cells; the statement's order is drawn). (LAID: no walk: one application.) -/
theorem Tryd.binary_LE_Uint64 (g o n c : Nat) (b0 b1 b2 b3 b4 b5 b6 b7 : UInt8) (w : World) (hn : 8 ≤ n) (c0 : w.cell? ⟨g, o, none⟩ = some (.int .u8 b0.toNat)) (c1 : w.cell? ⟨g, o + 1, none⟩ = some (.int .u8 b1.toNat)) (c2 : w.cell? ⟨g, o + 2, none⟩ = some (.int .u8 b2.toNat)) (c3 : w.cell? ⟨g, o + 3, none⟩ = some (.int .u8 b3.toNat)) (c4 : w.cell? ⟨g, o + 4, none⟩ = some (.int .u8 b4.toNat)) (c5 : w.cell? ⟨g, o + 5, none⟩ = some (.int .u8 b5.toNat)) (c6 : w.cell? ⟨g, o + 6, none⟩ = some (.int .u8 b6.toNat)) (c7 : w.cell? ⟨g, o + 7, none⟩ = some (.int .u8 b7.toNat)) :
    Calls Tryd.prog 92 #[.agg #[], .slice (some ⟨g, o, none⟩) n c] w fun e w' => e = .returned (.int .u64 (Lib.leNat [b0, b1, b2, b3, b4, b5, b6, b7])) ∧ Below w.heap.size w w' := Any.binary_LE_Uint64 Tryd.laysBin33 g o n c b0 b1 b2 b3 b4 b5 b6 b7 w hn c0 c1 c2 c3 c4 c5 c6 c7
open Go.RowKit in
/-- binary.LittleEndian.Uint64, b SHORTER THAN 8: IT PANICS: Go's 'runtime error: index out of range [7] with length n' ('Lib.boundsPanicked'). THE WORLD: the receiver's new block without cells, and the draw of the panic's flag. (LAID: no walk: one application.) -/
theorem Tryd.binary_LE_Uint64_panics (ao : Option Addr) (n c : Nat) (w : World) (hn : n < 8) (hnil : ao = none → n = 0) :
    Calls Tryd.prog 92 #[.agg #[], .slice ao n c] w fun e w' => Lib.boundsPanicked Tryd.prog 7 n e ∧ w' = (w.alloc (.cells #[] 125)).drew := Any.binary_LE_Uint64_panics Tryd.laysBin33 ao n c w hn hnil
def Tryd.laysPu14_ren : Go.Shelf.Ren := ⟨fun | 14 => 47 | 16 => 61 | 17 => 62 | 19 => 80 | 20 => 81 | 21 => 82 | 22 => 83 | 23 => 84 | 24 => 85 | 25 => 98 | 27 => 99 | 26 => 45 | 28 => 105 | 29 => 106 | 30 => 107 | 31 => 108 | 32 => 109 | 33 => 110 | 35 => 112 | 34 => 111 | 36 => 113 | 37 => 114 | 38 => 115 | 39 => 116 | 40 => 117 | n => n, fun | 9 => 9 | 3 => 3 | 22 => 34 | 24 => 55 | 25 => 56 | 4 => 4 | 34 => 120 | 5 => 5 | 36 => 84 | 37 => 45 | 0 => 0 | 39 => 121 | 21 => 21 | 44 => 129 | 47 => 141 | 50 => 102 | 48 => 100 | 2 => 2 | 52 => 143 | 55 => 146 | 59 => 150 | 60 => 138 | 20 => 20 | 61 => 151 | 65 => 154 | 66 => 155 | 67 => 156 | n => n, fun | 0 => 2 | 1 => 3 | 2 => 12 | 3 => 13 | 4 => 14 | n => n⟩
theorem Tryd.laysPu14 : Go.Proofs.LaysPu.n14 Tryd.prog Tryd.laysPu14_ren := {
  mixed := by kernel_rfl
  f14 := Tryd.func47.trans (congrArg some (by kernel_rfl))
  f16 := Tryd.func61.trans (congrArg some (by kernel_rfl))
  f17 := Tryd.func62.trans (congrArg some (by kernel_rfl))
  f19 := Tryd.func80.trans (congrArg some (by kernel_rfl))
  f20 := Tryd.func81.trans (congrArg some (by kernel_rfl))
  f21 := Tryd.func82.trans (congrArg some (by kernel_rfl))
  f22 := Tryd.func83.trans (congrArg some (by kernel_rfl))
  f23 := Tryd.func84.trans (congrArg some (by kernel_rfl))
  f24 := Tryd.func85.trans (congrArg some (by kernel_rfl))
  f25 := Tryd.func98.trans (congrArg some (by kernel_rfl))
  f26 := Tryd.func45.trans (congrArg some (by kernel_rfl))
  f27 := Tryd.func99.trans (congrArg some (by kernel_rfl))
  f28 := Tryd.func105.trans (congrArg some (by kernel_rfl))
  f29 := Tryd.func106.trans (congrArg some (by kernel_rfl))
  f30 := Tryd.func107.trans (congrArg some (by kernel_rfl))
  f31 := Tryd.func108.trans (congrArg some (by kernel_rfl))
  f32 := Tryd.func109.trans (congrArg some (by kernel_rfl))
  f33 := Tryd.func110.trans (congrArg some (by kernel_rfl))
  f34 := Tryd.func111.trans (congrArg some (by kernel_rfl))
  f35 := Tryd.func112.trans (congrArg some (by kernel_rfl))
  f36 := Tryd.func113.trans (congrArg some (by kernel_rfl))
  f37 := Tryd.func114.trans (congrArg some (by kernel_rfl))
  f38 := Tryd.func115.trans (congrArg some (by kernel_rfl))
  f39 := Tryd.func116.trans (congrArg some (by kernel_rfl))
  f40 := Tryd.func117.trans (congrArg some (by kernel_rfl))
  t0 := Tryd.underlying0
  a0 := Tryd.isAgg0
  z0 := Tryd.sizeOf0
  v0 := Tryd.zeroValue0
  i0 := by kernel_rfl
  t2 := Tryd.underlying2
  a2 := Tryd.isAgg2
  z2 := Tryd.sizeOf2
  v2 := Tryd.zeroValue2
  i2 := by kernel_rfl
  t3 := Tryd.underlying3
  a3 := Tryd.isAgg3
  z3 := Tryd.sizeOf3
  v3 := Tryd.zeroValue3
  i3 := by kernel_rfl
  t4 := Tryd.underlying4
  a4 := Tryd.isAgg4
  z4 := Tryd.sizeOf4
  v4 := Tryd.zeroValue4
  i4 := by kernel_rfl
  t5 := Tryd.underlying5
  a5 := Tryd.isAgg5
  z5 := Tryd.sizeOf5
  v5 := Tryd.zeroValue5
  i5 := by kernel_rfl
  t9 := Tryd.underlying9
  a9 := Tryd.isAgg9
  z9 := Tryd.sizeOf9
  v9 := Tryd.zeroValue9
  i9 := by kernel_rfl
  t20 := Tryd.underlying20
  a20 := Tryd.isAgg20
  z20 := Tryd.sizeOf20
  v20 := Tryd.zeroValue20
  i20 := by kernel_rfl
  t21 := Tryd.underlying21
  a21 := Tryd.isAgg21
  z21 := Tryd.sizeOf21
  v21 := Tryd.zeroValue21
  i21 := by kernel_rfl
  t22 := Tryd.underlying34
  a22 := Tryd.isAgg34
  z22 := Tryd.sizeOf34
  v22 := Tryd.zeroValue34
  i22 := by kernel_rfl
  t24 := Tryd.underlying55
  a24 := Tryd.isAgg55
  z24 := Tryd.sizeOf55
  v24 := Tryd.zeroValue55
  i24 := by kernel_rfl
  t25 := Tryd.underlying56
  a25 := Tryd.isAgg56
  z25 := Tryd.sizeOf56
  v25 := Tryd.zeroValue56
  i25 := by kernel_rfl
  t34 := Tryd.underlying120
  a34 := Tryd.isAgg120
  z34 := Tryd.sizeOf120
  v34 := Tryd.zeroValue120
  i34 := by kernel_rfl
  c34 := by kernel_rfl
  t36 := Tryd.underlying84
  a36 := Tryd.isAgg84
  z36 := Tryd.sizeOf84
  v36 := Tryd.zeroValue84
  i36 := by kernel_rfl
  t37 := Tryd.underlying45
  a37 := Tryd.isAgg45
  z37 := Tryd.sizeOf45
  v37 := Tryd.zeroValue45
  i37 := by kernel_rfl
  t39 := Tryd.underlying121
  a39 := Tryd.isAgg121
  z39 := Tryd.sizeOf121
  v39 := Tryd.zeroValue121
  i39 := by kernel_rfl
  t44 := Tryd.underlying129
  a44 := Tryd.isAgg129
  z44 := Tryd.sizeOf129
  v44 := Tryd.zeroValue129
  i44 := by kernel_rfl
  t47 := Tryd.underlying141
  a47 := Tryd.isAgg141
  z47 := Tryd.sizeOf141
  v47 := Tryd.zeroValue141
  i47 := by kernel_rfl
  t48 := Tryd.underlying100
  a48 := Tryd.isAgg100
  z48 := Tryd.sizeOf100
  v48 := Tryd.zeroValue100
  i48 := by kernel_rfl
  t50 := Tryd.underlying102
  a50 := Tryd.isAgg102
  z50 := Tryd.sizeOf102
  v50 := Tryd.zeroValue102
  i50 := by kernel_rfl
  t52 := Tryd.underlying143
  a52 := Tryd.isAgg143
  z52 := Tryd.sizeOf143
  v52 := Tryd.zeroValue143
  i52 := by kernel_rfl
  t55 := Tryd.underlying146
  a55 := Tryd.isAgg146
  z55 := Tryd.sizeOf146
  v55 := Tryd.zeroValue146
  i55 := by kernel_rfl
  t59 := Tryd.underlying150
  a59 := Tryd.isAgg150
  z59 := Tryd.sizeOf150
  v59 := Tryd.zeroValue150
  i59 := by kernel_rfl
  t60 := Tryd.underlying138
  a60 := Tryd.isAgg138
  z60 := Tryd.sizeOf138
  v60 := Tryd.zeroValue138
  i60 := by kernel_rfl
  t61 := Tryd.underlying151
  a61 := Tryd.isAgg151
  z61 := Tryd.sizeOf151
  t65 := Tryd.underlying154
  a65 := Tryd.isAgg154
  z65 := Tryd.sizeOf154
  v65 := Tryd.zeroValue154
  i65 := by kernel_rfl
  t66 := Tryd.underlying155
  a66 := Tryd.isAgg155
  z66 := Tryd.sizeOf155
  v66 := Tryd.zeroValue155
  i66 := by kernel_rfl
  t67 := Tryd.underlying156
  a67 := Tryd.isAgg156
  z67 := Tryd.sizeOf156
  v67 := Tryd.zeroValue156
  i67 := by kernel_rfl
  g0 := by kernel_rfl
  m0 := by kernel_rfl
  g1 := by kernel_rfl
  m1 := by kernel_rfl
  g2 := by kernel_rfl
  m2 := by kernel_rfl
  g3 := by kernel_rfl
  m3 := by kernel_rfl
  g4 := by kernel_rfl
  m4 := by kernel_rfl }
open Go.RowKit in
/-- strconv.ParseUint(s, 10, 0), AT EVERY STRING THAT SPELLS A uint64 ('Lib.parseUintB 64 s.data.toList = .ok u'): u, AND NO ERROR. (LAID: no walk: one application.) -/
theorem Tryd.strconv_ParseUint_10_at0_ok (s : ByteArray) (hmax : s.size ≤ 9223372036854775806) (u : Nat) (h : Lib.parseUintB 64 s.data.toList = .ok u) (w : World) :
    Calls Tryd.prog 47 #[.string s, .int .i64 10, .int .i64 0] w fun e w' => e = .returned (.tuple #[.int .u64 u, .nilIface]) ∧ (w' = w ∨ w' = Lib.bytesWorld w 5 s) := Any.strconv_ParseUint_10_at0_ok Tryd.laysPu14 s hmax u h w
open Go.RowKit in
/-- strconv.ParseUint(s, 10, 0), AT EVERY NUMERAL THAT NO uint64 HOLDS: THE GREATEST uint64, AND AN ERROR THAT IS NOT nil: a *NumError in a new block N: {Func: "ParseUint", Num: s's bytes, Err: what the variable ErrRange holds}. Of what was there nothing has turned. (LAID: no walk: one application.) -/
theorem Tryd.strconv_ParseUint_10_at0_range (s : ByteArray) (hlim : s.size ≤ 281474976710656) (h : Lib.parseUintB 64 s.data.toList = .range) (ev : Value) (w : World) (hv : w.cell? ⟨3, 0, none⟩ = some ev) (hev : ev = .nilIface ∨ ∃ te pe, ev = .iface te pe) :
    Calls Tryd.prog 47 #[.string s, .int .i64 10, .int .i64 0] w fun e w' => ∃ N, e = .returned (.tuple #[.int .u64 18446744073709551615, .iface 121 (.pointer (some ⟨N, 0, none⟩))]) ∧ w.heap.size ≤ N ∧ w'.heap[N]? = some (.cells #[.string ⟨#[80, 97, 114, 115, 101, 85, 105, 110, 116]⟩, .string s, ev] 129 (0, 0)) ∧ Below w.heap.size w w' := Any.strconv_ParseUint_10_at0_range Tryd.laysPu14 s hlim h ev w hv hev
open Go.RowKit in
/-- strconv.ParseUint(s, 10, 64), AT EVERY STRING THAT SPELLS A uint64 ('Lib.parseUintB 64 s.data.toList = .ok u'): u, AND NO ERROR. (LAID: no walk: one application.) -/
theorem Tryd.strconv_ParseUint_10_at64_ok (s : ByteArray) (hmax : s.size ≤ 9223372036854775806) (u : Nat) (h : Lib.parseUintB 64 s.data.toList = .ok u) (w : World) :
    Calls Tryd.prog 47 #[.string s, .int .i64 10, .int .i64 64] w fun e w' => e = .returned (.tuple #[.int .u64 u, .nilIface]) ∧ (w' = w ∨ w' = Lib.bytesWorld w 5 s) := Any.strconv_ParseUint_10_at64_ok Tryd.laysPu14 s hmax u h w
open Go.RowKit in
/-- strconv.ParseUint(s, 10, 64), AT EVERY NUMERAL THAT NO uint64 HOLDS: THE GREATEST uint64, AND AN ERROR THAT IS NOT nil: a *NumError in a new block N: {Func: "ParseUint", Num: s's bytes, Err: what the variable ErrRange holds}. Of what was there nothing has turned. (LAID: no walk: one application.) -/
theorem Tryd.strconv_ParseUint_10_at64_range (s : ByteArray) (hlim : s.size ≤ 281474976710656) (h : Lib.parseUintB 64 s.data.toList = .range) (ev : Value) (w : World) (hv : w.cell? ⟨3, 0, none⟩ = some ev) (hev : ev = .nilIface ∨ ∃ te pe, ev = .iface te pe) :
    Calls Tryd.prog 47 #[.string s, .int .i64 10, .int .i64 64] w fun e w' => ∃ N, e = .returned (.tuple #[.int .u64 18446744073709551615, .iface 121 (.pointer (some ⟨N, 0, none⟩))]) ∧ w.heap.size ≤ N ∧ w'.heap[N]? = some (.cells #[.string ⟨#[80, 97, 114, 115, 101, 85, 105, 110, 116]⟩, .string s, ev] 129 (0, 0)) ∧ Below w.heap.size w w' := Any.strconv_ParseUint_10_at64_range Tryd.laysPu14 s hlim h ev w hv hev
open Go.RowKit in
/-- strconv.ParseUint(s, 10, 32), AT EVERY STRING THAT SPELLS A uint32 ('Lib.parseUintB 32 s.data.toList = .ok u'): u, AND NO ERROR. (LAID: no walk: one application.) -/
theorem Tryd.strconv_ParseUint_10_at32_ok (s : ByteArray) (hmax : s.size ≤ 9223372036854775806) (u : Nat) (h : Lib.parseUintB 32 s.data.toList = .ok u) (w : World) :
    Calls Tryd.prog 47 #[.string s, .int .i64 10, .int .i64 32] w fun e w' => e = .returned (.tuple #[.int .u64 u, .nilIface]) ∧ (w' = w ∨ w' = Lib.bytesWorld w 5 s) := Any.strconv_ParseUint_10_at32_ok Tryd.laysPu14 s hmax u h w
open Go.RowKit in
/-- strconv.ParseUint(s, 10, 32), AT EVERY NUMERAL THAT NO uint32 HOLDS: THE GREATEST uint32, AND AN ERROR THAT IS NOT nil: a *NumError in a new block N: {Func: "ParseUint", Num: s's bytes, Err: what the variable ErrRange holds}. Of what was there nothing has turned. (LAID: no walk: one application.) -/
theorem Tryd.strconv_ParseUint_10_at32_range (s : ByteArray) (hlim : s.size ≤ 281474976710656) (h : Lib.parseUintB 32 s.data.toList = .range) (ev : Value) (w : World) (hv : w.cell? ⟨3, 0, none⟩ = some ev) (hev : ev = .nilIface ∨ ∃ te pe, ev = .iface te pe) :
    Calls Tryd.prog 47 #[.string s, .int .i64 10, .int .i64 32] w fun e w' => ∃ N, e = .returned (.tuple #[.int .u64 4294967295, .iface 121 (.pointer (some ⟨N, 0, none⟩))]) ∧ w.heap.size ≤ N ∧ w'.heap[N]? = some (.cells #[.string ⟨#[80, 97, 114, 115, 101, 85, 105, 110, 116]⟩, .string s, ev] 129 (0, 0)) ∧ Below w.heap.size w w' := Any.strconv_ParseUint_10_at32_range Tryd.laysPu14 s hlim h ev w hv hev
open Go.RowKit in
/-- strconv.ParseUint(s, 10, 16), AT EVERY STRING THAT SPELLS A uint16 ('Lib.parseUintB 16 s.data.toList = .ok u'): u, AND NO ERROR. (LAID: no walk: one application.) -/
theorem Tryd.strconv_ParseUint_10_at16_ok (s : ByteArray) (hmax : s.size ≤ 9223372036854775806) (u : Nat) (h : Lib.parseUintB 16 s.data.toList = .ok u) (w : World) :
    Calls Tryd.prog 47 #[.string s, .int .i64 10, .int .i64 16] w fun e w' => e = .returned (.tuple #[.int .u64 u, .nilIface]) ∧ (w' = w ∨ w' = Lib.bytesWorld w 5 s) := Any.strconv_ParseUint_10_at16_ok Tryd.laysPu14 s hmax u h w
open Go.RowKit in
/-- strconv.ParseUint(s, 10, 16), AT EVERY NUMERAL THAT NO uint16 HOLDS: THE GREATEST uint16, AND AN ERROR THAT IS NOT nil: a *NumError in a new block N: {Func: "ParseUint", Num: s's bytes, Err: what the variable ErrRange holds}. Of what was there nothing has turned. (LAID: no walk: one application.) -/
theorem Tryd.strconv_ParseUint_10_at16_range (s : ByteArray) (hlim : s.size ≤ 281474976710656) (h : Lib.parseUintB 16 s.data.toList = .range) (ev : Value) (w : World) (hv : w.cell? ⟨3, 0, none⟩ = some ev) (hev : ev = .nilIface ∨ ∃ te pe, ev = .iface te pe) :
    Calls Tryd.prog 47 #[.string s, .int .i64 10, .int .i64 16] w fun e w' => ∃ N, e = .returned (.tuple #[.int .u64 65535, .iface 121 (.pointer (some ⟨N, 0, none⟩))]) ∧ w.heap.size ≤ N ∧ w'.heap[N]? = some (.cells #[.string ⟨#[80, 97, 114, 115, 101, 85, 105, 110, 116]⟩, .string s, ev] 129 (0, 0)) ∧ Below w.heap.size w w' := Any.strconv_ParseUint_10_at16_range Tryd.laysPu14 s hlim h ev w hv hev
open Go.RowKit in
/-- strconv.ParseUint(s, 10, 8), AT EVERY STRING THAT SPELLS A uint8 ('Lib.parseUintB 8 s.data.toList = .ok u'): u, AND NO ERROR. (LAID: no walk: one application.) -/
theorem Tryd.strconv_ParseUint_10_at8_ok (s : ByteArray) (hmax : s.size ≤ 9223372036854775806) (u : Nat) (h : Lib.parseUintB 8 s.data.toList = .ok u) (w : World) :
    Calls Tryd.prog 47 #[.string s, .int .i64 10, .int .i64 8] w fun e w' => e = .returned (.tuple #[.int .u64 u, .nilIface]) ∧ (w' = w ∨ w' = Lib.bytesWorld w 5 s) := Any.strconv_ParseUint_10_at8_ok Tryd.laysPu14 s hmax u h w
open Go.RowKit in
/-- strconv.ParseUint(s, 10, 8), AT EVERY NUMERAL THAT NO uint8 HOLDS: THE GREATEST uint8, AND AN ERROR THAT IS NOT nil: a *NumError in a new block N: {Func: "ParseUint", Num: s's bytes, Err: what the variable ErrRange holds}. Of what was there nothing has turned. (LAID: no walk: one application.) -/
theorem Tryd.strconv_ParseUint_10_at8_range (s : ByteArray) (hlim : s.size ≤ 281474976710656) (h : Lib.parseUintB 8 s.data.toList = .range) (ev : Value) (w : World) (hv : w.cell? ⟨3, 0, none⟩ = some ev) (hev : ev = .nilIface ∨ ∃ te pe, ev = .iface te pe) :
    Calls Tryd.prog 47 #[.string s, .int .i64 10, .int .i64 8] w fun e w' => ∃ N, e = .returned (.tuple #[.int .u64 255, .iface 121 (.pointer (some ⟨N, 0, none⟩))]) ∧ w.heap.size ≤ N ∧ w'.heap[N]? = some (.cells #[.string ⟨#[80, 97, 114, 115, 101, 85, 105, 110, 116]⟩, .string s, ev] 129 (0, 0)) ∧ Below w.heap.size w w' := Any.strconv_ParseUint_10_at8_range Tryd.laysPu14 s hlim h ev w hv hev
open Go.RowKit in
theorem Tryd.strconv_ParseUint_10_at0_range_var (s : ByteArray) (hlim : s.size ≤ 281474976710656) (h : Lib.parseUintB 64 s.data.toList = .range) (tp : TypeId) (p : Value) (w : World) (hvar : w.var? Tryd.prog "strconv.ErrRange" = some #[.iface tp p]) :
    Calls Tryd.prog 47 #[.string s, .int .i64 10, .int .i64 0] w fun e w' => ∃ N, e = .returned (.tuple #[.int .u64 18446744073709551615, .iface 121 (.pointer (some ⟨N, 0, none⟩))]) ∧ w.heap.size ≤ N ∧ w'.heap[N]? = some (.cells #[.string ⟨#[80, 97, 114, 115, 101, 85, 105, 110, 116]⟩, .string s, .iface tp p] 129 (0, 0)) ∧ Below w.heap.size w w' := Any.strconv_ParseUint_10_at0_range_var Tryd.laysPu14 s hlim h tp p w hvar
open Go.RowKit in
theorem Tryd.strconv_ParseUint_10_at64_range_var (s : ByteArray) (hlim : s.size ≤ 281474976710656) (h : Lib.parseUintB 64 s.data.toList = .range) (tp : TypeId) (p : Value) (w : World) (hvar : w.var? Tryd.prog "strconv.ErrRange" = some #[.iface tp p]) :
    Calls Tryd.prog 47 #[.string s, .int .i64 10, .int .i64 64] w fun e w' => ∃ N, e = .returned (.tuple #[.int .u64 18446744073709551615, .iface 121 (.pointer (some ⟨N, 0, none⟩))]) ∧ w.heap.size ≤ N ∧ w'.heap[N]? = some (.cells #[.string ⟨#[80, 97, 114, 115, 101, 85, 105, 110, 116]⟩, .string s, .iface tp p] 129 (0, 0)) ∧ Below w.heap.size w w' := Any.strconv_ParseUint_10_at64_range_var Tryd.laysPu14 s hlim h tp p w hvar
open Go.RowKit in
theorem Tryd.strconv_ParseUint_10_at32_range_var (s : ByteArray) (hlim : s.size ≤ 281474976710656) (h : Lib.parseUintB 32 s.data.toList = .range) (tp : TypeId) (p : Value) (w : World) (hvar : w.var? Tryd.prog "strconv.ErrRange" = some #[.iface tp p]) :
    Calls Tryd.prog 47 #[.string s, .int .i64 10, .int .i64 32] w fun e w' => ∃ N, e = .returned (.tuple #[.int .u64 4294967295, .iface 121 (.pointer (some ⟨N, 0, none⟩))]) ∧ w.heap.size ≤ N ∧ w'.heap[N]? = some (.cells #[.string ⟨#[80, 97, 114, 115, 101, 85, 105, 110, 116]⟩, .string s, .iface tp p] 129 (0, 0)) ∧ Below w.heap.size w w' := Any.strconv_ParseUint_10_at32_range_var Tryd.laysPu14 s hlim h tp p w hvar
open Go.RowKit in
theorem Tryd.strconv_ParseUint_10_at16_range_var (s : ByteArray) (hlim : s.size ≤ 281474976710656) (h : Lib.parseUintB 16 s.data.toList = .range) (tp : TypeId) (p : Value) (w : World) (hvar : w.var? Tryd.prog "strconv.ErrRange" = some #[.iface tp p]) :
    Calls Tryd.prog 47 #[.string s, .int .i64 10, .int .i64 16] w fun e w' => ∃ N, e = .returned (.tuple #[.int .u64 65535, .iface 121 (.pointer (some ⟨N, 0, none⟩))]) ∧ w.heap.size ≤ N ∧ w'.heap[N]? = some (.cells #[.string ⟨#[80, 97, 114, 115, 101, 85, 105, 110, 116]⟩, .string s, .iface tp p] 129 (0, 0)) ∧ Below w.heap.size w w' := Any.strconv_ParseUint_10_at16_range_var Tryd.laysPu14 s hlim h tp p w hvar
open Go.RowKit in
theorem Tryd.strconv_ParseUint_10_at8_range_var (s : ByteArray) (hlim : s.size ≤ 281474976710656) (h : Lib.parseUintB 8 s.data.toList = .range) (tp : TypeId) (p : Value) (w : World) (hvar : w.var? Tryd.prog "strconv.ErrRange" = some #[.iface tp p]) :
    Calls Tryd.prog 47 #[.string s, .int .i64 10, .int .i64 8] w fun e w' => ∃ N, e = .returned (.tuple #[.int .u64 255, .iface 121 (.pointer (some ⟨N, 0, none⟩))]) ∧ w.heap.size ≤ N ∧ w'.heap[N]? = some (.cells #[.string ⟨#[80, 97, 114, 115, 101, 85, 105, 110, 116]⟩, .string s, .iface tp p] 129 (0, 0)) ∧ Below w.heap.size w w' := Any.strconv_ParseUint_10_at8_range_var Tryd.laysPu14 s hlim h tp p w hvar
def Tryd.lays217_ren : Go.Shelf.Ren := ⟨fun | 217 => 86 | 266 => 100 | n => n, fun | 9 => 9 | 5 => 5 | 3 => 3 | n => n, fun | n => n⟩
theorem Tryd.lays217 : Go.Proofs.Lays.n217 Tryd.prog Tryd.lays217_ren := {
  mixed := by kernel_rfl
  f217 := Tryd.func86.trans (congrArg some (by kernel_rfl))
  f266 := Tryd.func100.trans (congrArg some (by kernel_rfl))
  t3 := Tryd.underlying3
  a3 := Tryd.isAgg3
  z3 := Tryd.sizeOf3
  v3 := Tryd.zeroValue3
  t5 := Tryd.underlying5
  a5 := Tryd.isAgg5
  z5 := Tryd.sizeOf5
  v5 := Tryd.zeroValue5
  t9 := Tryd.underlying9
  a9 := Tryd.isAgg9
  z9 := Tryd.sizeOf9
  v9 := Tryd.zeroValue9 }
open Go.RowKit Go.Lib in
/-- internal/stringslite.IndexByte (what strings.IndexByte calls): IT RETURNS 'Lib.indexByte s c'; the world is as it was. (LAID: no walk: one application.) -/
theorem Tryd.stringslite_IndexByte (s : ByteArray) (c : Int) (w : World) :
    Calls Tryd.prog 86 #[.string s, .int .u8 c] w fun e w' => e = .returned (.int .i64 (Lib.indexByte s.data.toList c.toNat.toUInt8)) ∧ w' = w := Any.stringslite_IndexByte Tryd.lays217 s c w
open Go.RowKit in
/-- binary.LittleEndian.Uint64, ITS PREMISES 'open_ints'' CONCLUSION TO THE LETTER: a slice at WHATEVER address a, the numbers zs that its cells hold: THE NUMBER THAT THE FIRST 8 SPELL ('Lib.leZ'). (LAID: no walk: one application.) -/
theorem Tryd.binary_LE_Uint64_z (a : Addr) (n c : Nat) (zs : List Int) (w : World) (hn : 8 ≤ n) (hl : 8 ≤ zs.length) (hcell : ∀ i, i < zs.length → w.cell? (a.add i) = some (.int .u8 (zs.getD i 0))) (hw : ∀ z ∈ zs, (Lit.int .u8 z).wf = true) :
    Calls Tryd.prog 92 #[.agg #[], .slice (some a) n c] w fun e w' => e = .returned (.int .u64 (Lib.leZ (zs.take 8))) ∧ Below w.heap.size w w' := Any.binary_LE_Uint64_z Tryd.laysBin33 a n c zs w hn hl hcell hw
def Tryd.lays197_ren : Go.Shelf.Ren := ⟨fun | 197 => 78 | 260 => 93 | n => n, fun | 9 => 9 | 21 => 21 | 3 => 3 | 4 => 4 | 5 => 5 | 105 => 117 | 119 => 131 | 0 => 0 | 46 => 84 | 139 => 134 | 138 => 133 | n => n, fun | 3 => 4 | 4 => 5 | n => n⟩
theorem Tryd.lays197 : Go.Proofs.Lays.n197 Tryd.prog Tryd.lays197_ren := {
  mixed := by kernel_rfl
  f197 := Tryd.func78.trans (congrArg some (by kernel_rfl))
  f260 := Tryd.func93.trans (congrArg some (by kernel_rfl))
  t0 := Tryd.underlying0
  a0 := Tryd.isAgg0
  z0 := Tryd.sizeOf0
  v0 := Tryd.zeroValue0
  t3 := Tryd.underlying3
  a3 := Tryd.isAgg3
  z3 := Tryd.sizeOf3
  v3 := Tryd.zeroValue3
  t4 := Tryd.underlying4
  a4 := Tryd.isAgg4
  z4 := Tryd.sizeOf4
  v4 := Tryd.zeroValue4
  t5 := Tryd.underlying5
  a5 := Tryd.isAgg5
  z5 := Tryd.sizeOf5
  v5 := Tryd.zeroValue5
  t9 := Tryd.underlying9
  a9 := Tryd.isAgg9
  z9 := Tryd.sizeOf9
  v9 := Tryd.zeroValue9
  t21 := Tryd.underlying21
  a21 := Tryd.isAgg21
  z21 := Tryd.sizeOf21
  v21 := Tryd.zeroValue21
  t46 := Tryd.underlying84
  a46 := Tryd.isAgg84
  z46 := Tryd.sizeOf84
  v46 := Tryd.zeroValue84
  t105 := Tryd.underlying117
  a105 := Tryd.isAgg117
  z105 := Tryd.sizeOf117
  v105 := Tryd.zeroValue117
  t119 := Tryd.underlying131
  a119 := Tryd.isAgg131
  z119 := Tryd.sizeOf131
  t138 := Tryd.underlying133
  a138 := Tryd.isAgg133
  z138 := Tryd.sizeOf133
  v138 := Tryd.zeroValue133
  t139 := Tryd.underlying134
  a139 := Tryd.isAgg134
  z139 := Tryd.sizeOf134
  v139 := Tryd.zeroValue134
  g3 := by kernel_rfl
  g4 := by kernel_rfl }
open Go.RowKit Go.Lib in
/-- unicode/utf8.DecodeRuneInString: "DecodeRuneInString is like DecodeRune but its input is a string.": ("DecodeRune unpacks the first UTF-8 encoding in p and returns the rune and its width in bytes."): WHERE s BEGINS WITH AN ASCII BYTE x: (x, 1). (LAID: no walk: one application.) -/
theorem Tryd.utf8_DecodeRuneInString_ascii (s : ByteArray) (x : UInt8) (w : World) (h0 : s.data.toList[0]? = some x) (hx : x.toNat < 128) :
    Calls Tryd.prog 78 #[.string s] w fun e w' => e = .returned (.tuple #[.int .i32 x.toNat, .int .i64 1]) ∧ w' = w := Any.utf8_DecodeRuneInString_ascii Tryd.lays197 s x w h0 hx
def Tryd.lays260_ren : Go.Shelf.Ren := ⟨fun | 260 => 93 | n => n, fun | 9 => 9 | 21 => 21 | 3 => 3 | 4 => 4 | 5 => 5 | 119 => 131 | 0 => 0 | 46 => 84 | 139 => 134 | 138 => 133 | n => n, fun | 3 => 4 | 4 => 5 | n => n⟩
theorem Tryd.lays260 : Go.Proofs.Lays.n260 Tryd.prog Tryd.lays260_ren := {
  mixed := by kernel_rfl
  f260 := Tryd.func93.trans (congrArg some (by kernel_rfl))
  t0 := Tryd.underlying0
  a0 := Tryd.isAgg0
  z0 := Tryd.sizeOf0
  v0 := Tryd.zeroValue0
  t3 := Tryd.underlying3
  a3 := Tryd.isAgg3
  z3 := Tryd.sizeOf3
  v3 := Tryd.zeroValue3
  t4 := Tryd.underlying4
  a4 := Tryd.isAgg4
  z4 := Tryd.sizeOf4
  v4 := Tryd.zeroValue4
  t5 := Tryd.underlying5
  a5 := Tryd.isAgg5
  z5 := Tryd.sizeOf5
  v5 := Tryd.zeroValue5
  t9 := Tryd.underlying9
  a9 := Tryd.isAgg9
  z9 := Tryd.sizeOf9
  v9 := Tryd.zeroValue9
  t21 := Tryd.underlying21
  a21 := Tryd.isAgg21
  z21 := Tryd.sizeOf21
  v21 := Tryd.zeroValue21
  t46 := Tryd.underlying84
  a46 := Tryd.isAgg84
  z46 := Tryd.sizeOf84
  v46 := Tryd.zeroValue84
  t119 := Tryd.underlying131
  a119 := Tryd.isAgg131
  z119 := Tryd.sizeOf131
  t138 := Tryd.underlying133
  a138 := Tryd.isAgg133
  z138 := Tryd.sizeOf133
  v138 := Tryd.zeroValue133
  t139 := Tryd.underlying134
  a139 := Tryd.isAgg134
  z139 := Tryd.sizeOf134
  v139 := Tryd.zeroValue134
  g3 := by kernel_rfl
  g4 := by kernel_rfl }
open Go.RowKit Go.Lib in
theorem Tryd.utf8_decodeRuneInStringSlow (s : ByteArray) (w : World) (hT : Lib.Utf8Tabs 4 5 w) :
    Calls Tryd.prog 93 #[.string s] w fun e w' => e = .returned (.tuple #[.int .i32 (Lib.decodeGo s).1, .int .i64 (Lib.decodeGo s).2]) ∧ Below w.heap.size w w' := Any.utf8_decodeRuneInStringSlow Tryd.lays260 s w hT
open Go.RowKit Go.Lib in
/-- **unicode/utf8.DecodeRuneInString AT EVERY STRING.** (LAID: no walk: one application.) -/
theorem Tryd.utf8_DecodeRuneInString (s : ByteArray) (w : World) (hT : Lib.Utf8Tabs 4 5 w) :
    Calls Tryd.prog 78 #[.string s] w fun e w' => e = .returned (.tuple #[.int .i32 (Lib.decodeGo s).1, .int .i64 (Lib.decodeGo s).2]) ∧ Below w.heap.size w w' := Any.utf8_DecodeRuneInString Tryd.lays197 s w hT
end Go.Proofs
