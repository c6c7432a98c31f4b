/- The kit's contracts of Go's own library, laid at this seat's numbers by the kit's tools lay-shelf and lay-plain. -/
import Derived.Shelf.Small.Strs
import Derived.Shelf.Strconv.Atoi
import Derived.Ground.MnProg
import Derived.Shelf.Bin.LEUint64
import Derived.Shelf.Strings.Search1
import Derived.Shelf.Bin.ReadersZ
import Derived.Shelf.Bytes.IndexByte
import Derived.Test.YtkdkdhcjpgmjdaaGreatDoorProg
namespace Go.Proofs
open Go.Shelf
def Tryz.lays137_ren : Go.Shelf.Ren := ⟨fun | 137 => 91 | 217 => 102 | 266 => 109 | n => n, fun | 9 => 9 | 5 => 5 | 3 => 3 | n => n, fun | n => n⟩
theorem Tryz.lays137 : Go.Proofs.Lays.n137 Tryz.prog Tryz.lays137_ren := {
  mixed := by kernel_rfl
  f137 := Tryz.func91.trans (congrArg some (by kernel_rfl))
  f217 := Tryz.func102.trans (congrArg some (by kernel_rfl))
  f266 := Tryz.func109.trans (congrArg some (by kernel_rfl))
  t3 := Tryz.underlying3
  a3 := Tryz.isAgg3
  z3 := Tryz.sizeOf3
  v3 := Tryz.zeroValue3
  t5 := Tryz.underlying5
  a5 := Tryz.isAgg5
  z5 := Tryz.sizeOf5
  v5 := Tryz.zeroValue5
  t9 := Tryz.underlying9
  a9 := Tryz.isAgg9
  z9 := Tryz.sizeOf9
  v9 := Tryz.zeroValue9 }
open Go.RowKit in
/-- strings.IndexByte: "IndexByte returns the index of the first instance of c in s, or -1 if c is not present in s.": IT RETURNS 'Lib.indexByte s c'; the world is as it was. (LAID: no walk: one application.) -/
theorem Tryz.strings_IndexByte (s : ByteArray) (c : Int) (w : World) :
    Calls Tryz.prog 91 #[.string s, .int .u8 c] w fun e w' => e = .returned (.int .i64 (Lib.indexByte s.data.toList c.toNat.toUInt8)) ∧ w' = w := Any.strings_IndexByte Tryz.lays137 s c w
def Tryz.lays244_ren : Go.Shelf.Ren := ⟨fun | 244 => 103 | 247 => 110 | 287 => 119 | 321 => 124 | 322 => 125 | n => n, fun | 9 => 9 | 3 => 3 | 75 => 56 | 4 => 4 | 5 => 5 | 167 => 169 | 37 => 59 | 0 => 0 | 85 => 170 | 2 => 2 | 53 => 159 | 175 => 180 | 46 => 168 | 21 => 21 | 80 => 203 | n => n, fun | n => n⟩
theorem Tryz.lays244 : Go.Proofs.Lays.n244 Tryz.prog Tryz.lays244_ren := {
  mixed := by kernel_rfl
  f244 := Tryz.func103.trans (congrArg some (by kernel_rfl))
  f247 := Tryz.func110.trans (congrArg some (by kernel_rfl))
  f287 := Tryz.func119.trans (congrArg some (by kernel_rfl))
  f321 := Tryz.func124.trans (congrArg some (by kernel_rfl))
  f322 := Tryz.func125.trans (congrArg some (by kernel_rfl))
  t0 := Tryz.underlying0
  a0 := Tryz.isAgg0
  z0 := Tryz.sizeOf0
  v0 := Tryz.zeroValue0
  t2 := Tryz.underlying2
  a2 := Tryz.isAgg2
  z2 := Tryz.sizeOf2
  v2 := Tryz.zeroValue2
  t3 := Tryz.underlying3
  a3 := Tryz.isAgg3
  z3 := Tryz.sizeOf3
  v3 := Tryz.zeroValue3
  t4 := Tryz.underlying4
  a4 := Tryz.isAgg4
  z4 := Tryz.sizeOf4
  v4 := Tryz.zeroValue4
  t5 := Tryz.underlying5
  a5 := Tryz.isAgg5
  z5 := Tryz.sizeOf5
  v5 := Tryz.zeroValue5
  t9 := Tryz.underlying9
  a9 := Tryz.isAgg9
  z9 := Tryz.sizeOf9
  v9 := Tryz.zeroValue9
  t21 := Tryz.underlying21
  a21 := Tryz.isAgg21
  z21 := Tryz.sizeOf21
  v21 := Tryz.zeroValue21
  t37 := Tryz.underlying59
  a37 := Tryz.isAgg59
  z37 := Tryz.sizeOf59
  v37 := Tryz.zeroValue59
  t46 := Tryz.underlying168
  a46 := Tryz.isAgg168
  z46 := Tryz.sizeOf168
  v46 := Tryz.zeroValue168
  t53 := Tryz.underlying159
  a53 := Tryz.isAgg159
  z53 := Tryz.sizeOf159
  v53 := Tryz.zeroValue159
  t75 := Tryz.underlying56
  a75 := Tryz.isAgg56
  z75 := Tryz.sizeOf56
  v75 := Tryz.zeroValue56
  t85 := Tryz.underlying170
  a85 := Tryz.isAgg170
  z85 := Tryz.sizeOf170
  v85 := Tryz.zeroValue170
  t167 := Tryz.underlying169
  a167 := Tryz.isAgg169
  z167 := Tryz.sizeOf169
  v167 := Tryz.zeroValue169
  t175 := Tryz.underlying180
  a175 := Tryz.isAgg180
  z175 := Tryz.sizeOf180
  v175 := Tryz.zeroValue180 }
open Go.RowKit in
/-- internal/strconv.Atoi, at a decimal numeral of at most 18 bytes: ITS VALUE, AND NO ERROR. The world behind the call: the one new row that '[]byte(s)' lays. (LAID: no walk: one application.) -/
theorem Tryz.internal_strconv_Atoi (s : ByteArray) (n : Int) (hl : s.size ≤ 18) (h : Lib.atoi s.data.toList = some n) (w : World) :
    Calls Tryz.prog 103 #[.string s] w fun e w' => e = .returned (.tuple #[.int .i64 n, .nilIface]) ∧ ∃ t, w' = Lib.bytesWorld w 5 t := Any.internal_strconv_Atoi Tryz.lays244 s n hl h w
def Tryz.lays172_ren : Go.Shelf.Ren := ⟨fun | 172 => 96 | 244 => 103 | 245 => 104 | 247 => 110 | 279 => 111 | 280 => 112 | 281 => 113 | 282 => 114 | 287 => 119 | 316 => 120 | 171 => 122 | 205 => 121 | 321 => 124 | 322 => 125 | 243 => 126 | 246 => 127 | 283 => 128 | 284 => 129 | 285 => 130 | 286 => 131 | 129 => 133 | 317 => 132 | 318 => 134 | 319 => 135 | 320 => 136 | 337 => 137 | 338 => 138 | n => n, fun | 9 => 9 | 3 => 3 | 75 => 56 | 76 => 57 | 4 => 4 | 5 => 5 | 167 => 169 | 37 => 59 | 0 => 0 | 85 => 170 | 2 => 2 | 168 => 172 | 53 => 159 | 175 => 180 | 46 => 168 | 210 => 183 | 127 => 187 | 145 => 190 | 143 => 188 | 21 => 21 | 171 => 192 | 173 => 195 | 212 => 198 | 51 => 179 | 20 => 20 | 213 => 199 | 232 => 202 | 233 => 133 | 80 => 203 | n => n, fun | 15 => 16 | 16 => 17 | 17 => 18 | 18 => 19 | 19 => 20 | n => n⟩
theorem Tryz.lays172 : Go.Proofs.Lays.n172 Tryz.prog Tryz.lays172_ren := {
  mixed := by kernel_rfl
  f129 := Tryz.func133.trans (congrArg some (by kernel_rfl))
  f171 := Tryz.func122.trans (congrArg some (by kernel_rfl))
  f172 := Tryz.func96.trans (congrArg some (by kernel_rfl))
  f205 := Tryz.func121.trans (congrArg some (by kernel_rfl))
  f243 := Tryz.func126.trans (congrArg some (by kernel_rfl))
  f244 := Tryz.func103.trans (congrArg some (by kernel_rfl))
  f245 := Tryz.func104.trans (congrArg some (by kernel_rfl))
  f246 := Tryz.func127.trans (congrArg some (by kernel_rfl))
  f247 := Tryz.func110.trans (congrArg some (by kernel_rfl))
  f279 := Tryz.func111.trans (congrArg some (by kernel_rfl))
  f280 := Tryz.func112.trans (congrArg some (by kernel_rfl))
  f281 := Tryz.func113.trans (congrArg some (by kernel_rfl))
  f282 := Tryz.func114.trans (congrArg some (by kernel_rfl))
  f283 := Tryz.func128.trans (congrArg some (by kernel_rfl))
  f284 := Tryz.func129.trans (congrArg some (by kernel_rfl))
  f285 := Tryz.func130.trans (congrArg some (by kernel_rfl))
  f286 := Tryz.func131.trans (congrArg some (by kernel_rfl))
  f287 := Tryz.func119.trans (congrArg some (by kernel_rfl))
  f316 := Tryz.func120.trans (congrArg some (by kernel_rfl))
  f317 := Tryz.func132.trans (congrArg some (by kernel_rfl))
  f318 := Tryz.func134.trans (congrArg some (by kernel_rfl))
  f319 := Tryz.func135.trans (congrArg some (by kernel_rfl))
  f320 := Tryz.func136.trans (congrArg some (by kernel_rfl))
  f321 := Tryz.func124.trans (congrArg some (by kernel_rfl))
  f322 := Tryz.func125.trans (congrArg some (by kernel_rfl))
  f337 := Tryz.func137.trans (congrArg some (by kernel_rfl))
  f338 := Tryz.func138.trans (congrArg some (by kernel_rfl))
  t0 := Tryz.underlying0
  a0 := Tryz.isAgg0
  z0 := Tryz.sizeOf0
  v0 := Tryz.zeroValue0
  t2 := Tryz.underlying2
  a2 := Tryz.isAgg2
  z2 := Tryz.sizeOf2
  v2 := Tryz.zeroValue2
  t3 := Tryz.underlying3
  a3 := Tryz.isAgg3
  z3 := Tryz.sizeOf3
  v3 := Tryz.zeroValue3
  t4 := Tryz.underlying4
  a4 := Tryz.isAgg4
  z4 := Tryz.sizeOf4
  v4 := Tryz.zeroValue4
  t5 := Tryz.underlying5
  a5 := Tryz.isAgg5
  z5 := Tryz.sizeOf5
  v5 := Tryz.zeroValue5
  t9 := Tryz.underlying9
  a9 := Tryz.isAgg9
  z9 := Tryz.sizeOf9
  v9 := Tryz.zeroValue9
  t20 := Tryz.underlying20
  a20 := Tryz.isAgg20
  z20 := Tryz.sizeOf20
  v20 := Tryz.zeroValue20
  t21 := Tryz.underlying21
  a21 := Tryz.isAgg21
  z21 := Tryz.sizeOf21
  v21 := Tryz.zeroValue21
  t37 := Tryz.underlying59
  a37 := Tryz.isAgg59
  z37 := Tryz.sizeOf59
  v37 := Tryz.zeroValue59
  t46 := Tryz.underlying168
  a46 := Tryz.isAgg168
  z46 := Tryz.sizeOf168
  v46 := Tryz.zeroValue168
  t51 := Tryz.underlying179
  a51 := Tryz.isAgg179
  z51 := Tryz.sizeOf179
  v51 := Tryz.zeroValue179
  t53 := Tryz.underlying159
  a53 := Tryz.isAgg159
  z53 := Tryz.sizeOf159
  v53 := Tryz.zeroValue159
  t75 := Tryz.underlying56
  a75 := Tryz.isAgg56
  z75 := Tryz.sizeOf56
  v75 := Tryz.zeroValue56
  t76 := Tryz.underlying57
  a76 := Tryz.isAgg57
  z76 := Tryz.sizeOf57
  v76 := Tryz.zeroValue57
  t85 := Tryz.underlying170
  a85 := Tryz.isAgg170
  z85 := Tryz.sizeOf170
  v85 := Tryz.zeroValue170
  t127 := Tryz.underlying187
  a127 := Tryz.isAgg187
  z127 := Tryz.sizeOf187
  v127 := Tryz.zeroValue187
  t143 := Tryz.underlying188
  a143 := Tryz.isAgg188
  z143 := Tryz.sizeOf188
  v143 := Tryz.zeroValue188
  t145 := Tryz.underlying190
  a145 := Tryz.isAgg190
  z145 := Tryz.sizeOf190
  v145 := Tryz.zeroValue190
  t167 := Tryz.underlying169
  a167 := Tryz.isAgg169
  z167 := Tryz.sizeOf169
  v167 := Tryz.zeroValue169
  t168 := Tryz.underlying172
  a168 := Tryz.isAgg172
  z168 := Tryz.sizeOf172
  v168 := Tryz.zeroValue172
  t171 := Tryz.underlying192
  a171 := Tryz.isAgg192
  z171 := Tryz.sizeOf192
  v171 := Tryz.zeroValue192
  t173 := Tryz.underlying195
  a173 := Tryz.isAgg195
  z173 := Tryz.sizeOf195
  v173 := Tryz.zeroValue195
  t175 := Tryz.underlying180
  a175 := Tryz.isAgg180
  z175 := Tryz.sizeOf180
  v175 := Tryz.zeroValue180
  t210 := Tryz.underlying183
  a210 := Tryz.isAgg183
  z210 := Tryz.sizeOf183
  v210 := Tryz.zeroValue183
  t212 := Tryz.underlying198
  a212 := Tryz.isAgg198
  z212 := Tryz.sizeOf198
  v212 := Tryz.zeroValue198
  t213 := Tryz.underlying199
  a213 := Tryz.isAgg199
  z213 := Tryz.sizeOf199
  t232 := Tryz.underlying202
  a232 := Tryz.isAgg202
  z232 := Tryz.sizeOf202
  v232 := Tryz.zeroValue202
  t233 := Tryz.underlying133
  a233 := Tryz.isAgg133
  z233 := Tryz.sizeOf133
  v233 := Tryz.zeroValue133
  g15 := by kernel_rfl
  g16 := by kernel_rfl
  g17 := by kernel_rfl
  g18 := by kernel_rfl
  g19 := by kernel_rfl }
open Go.RowKit in
/-- strconv.Atoi: "Atoi is equivalent to ParseInt(s, 10, 0), converted to type int.": AT A DECIMAL NUMERAL OF AT MOST 18 BYTES: its value, and a nil error. The world behind the call: the one new row that the library's '[]byte(s)' lays. (LAID: no walk: one application.) -/
theorem Tryz.strconv_Atoi (s : ByteArray) (n : Int) (hl : s.size ≤ 18) (h : Lib.atoi s.data.toList = some n) (w : World) :
    Calls Tryz.prog 96 #[.string s] w fun e w' => e = .returned (.tuple #[.int .i64 n, .nilIface]) ∧ ∃ t, w' = Lib.bytesWorld w 5 t := Any.strconv_Atoi Tryz.lays172 s n hl h w
def Tryz.laysBin33_ren : Go.Shelf.Ren := ⟨fun | 33 => 101 | n => n, fun | 25 => 161 | 22 => 59 | 33 => 159 | 0 => 0 | 5 => 5 | 45 => 168 | n => n, fun | n => n⟩
theorem Tryz.laysBin33 : Go.Proofs.LaysBin.n33 Tryz.prog Tryz.laysBin33_ren := {
  mixed := by kernel_rfl
  f33 := Tryz.func101.trans (congrArg some (by kernel_rfl))
  t0 := Tryz.underlying0
  a0 := Tryz.isAgg0
  z0 := Tryz.sizeOf0
  v0 := Tryz.zeroValue0
  i0 := by kernel_rfl
  t5 := Tryz.underlying5
  a5 := Tryz.isAgg5
  z5 := Tryz.sizeOf5
  v5 := Tryz.zeroValue5
  i5 := by kernel_rfl
  t22 := Tryz.underlying59
  a22 := Tryz.isAgg59
  z22 := Tryz.sizeOf59
  v22 := Tryz.zeroValue59
  i22 := by kernel_rfl
  t25 := Tryz.underlying161
  a25 := Tryz.isAgg161
  z25 := Tryz.sizeOf161
  v25 := Tryz.zeroValue161
  i25 := by kernel_rfl
  t33 := Tryz.underlying159
  a33 := Tryz.isAgg159
  z33 := Tryz.sizeOf159
  v33 := Tryz.zeroValue159
  i33 := by kernel_rfl
  t45 := Tryz.underlying168
  a45 := Tryz.isAgg168
  z45 := Tryz.sizeOf168
  v45 := Tryz.zeroValue168
  i45 := by kernel_rfl }
open Go.RowKit in
/-- binary.LittleEndian.Uint64: "Uint64 returns the uint64 representation of b[0:8].": THE NUMBER THAT THE FIRST 8 BYTES SPELL, the least byte first ('Lib.leNat'). Of what was there nothing has turned (the receiver, an empty struct, is laid in a new block without cells; the statement's order is drawn). (LAID: no walk: one application.) -/
theorem Tryz.binary_LE_Uint64 (g o n c : Nat) (b0 b1 b2 b3 b4 b5 b6 b7 : UInt8) (w : World) (hn : 8 ≤ n) (c0 : w.cell? ⟨g, o, none⟩ = some (.int .u8 b0.toNat)) (c1 : w.cell? ⟨g, o + 1, none⟩ = some (.int .u8 b1.toNat)) (c2 : w.cell? ⟨g, o + 2, none⟩ = some (.int .u8 b2.toNat)) (c3 : w.cell? ⟨g, o + 3, none⟩ = some (.int .u8 b3.toNat)) (c4 : w.cell? ⟨g, o + 4, none⟩ = some (.int .u8 b4.toNat)) (c5 : w.cell? ⟨g, o + 5, none⟩ = some (.int .u8 b5.toNat)) (c6 : w.cell? ⟨g, o + 6, none⟩ = some (.int .u8 b6.toNat)) (c7 : w.cell? ⟨g, o + 7, none⟩ = some (.int .u8 b7.toNat)) :
    Calls Tryz.prog 101 #[.agg #[], .slice (some ⟨g, o, none⟩) n c] w fun e w' => e = .returned (.int .u64 (Lib.leNat [b0, b1, b2, b3, b4, b5, b6, b7])) ∧ Below w.heap.size w w' := Any.binary_LE_Uint64 Tryz.laysBin33 g o n c b0 b1 b2 b3 b4 b5 b6 b7 w hn c0 c1 c2 c3 c4 c5 c6 c7
def Tryz.lays217_ren : Go.Shelf.Ren := ⟨fun | 217 => 102 | 266 => 109 | n => n, fun | 9 => 9 | 5 => 5 | 3 => 3 | n => n, fun | n => n⟩
theorem Tryz.lays217 : Go.Proofs.Lays.n217 Tryz.prog Tryz.lays217_ren := {
  mixed := by kernel_rfl
  f217 := Tryz.func102.trans (congrArg some (by kernel_rfl))
  f266 := Tryz.func109.trans (congrArg some (by kernel_rfl))
  t3 := Tryz.underlying3
  a3 := Tryz.isAgg3
  z3 := Tryz.sizeOf3
  v3 := Tryz.zeroValue3
  t5 := Tryz.underlying5
  a5 := Tryz.isAgg5
  z5 := Tryz.sizeOf5
  v5 := Tryz.zeroValue5
  t9 := Tryz.underlying9
  a9 := Tryz.isAgg9
  z9 := Tryz.sizeOf9
  v9 := Tryz.zeroValue9 }
open Go.RowKit Go.Lib in
/-- internal/stringslite.IndexByte (what strings.IndexByte calls): IT RETURNS 'Lib.indexByte s c'; the world is as it was. (LAID: no walk: one application.) -/
theorem Tryz.stringslite_IndexByte (s : ByteArray) (c : Int) (w : World) :
    Calls Tryz.prog 102 #[.string s, .int .u8 c] w fun e w' => e = .returned (.int .i64 (Lib.indexByte s.data.toList c.toNat.toUInt8)) ∧ w' = w := Any.stringslite_IndexByte Tryz.lays217 s c w
open Go.RowKit in
/-- binary.LittleEndian.Uint64, ITS PREMISES 'open_ints'' CONCLUSION TO THE LETTER: a slice at WHATEVER address a, the numbers zs that its cells hold: THE NUMBER THAT THE FIRST 8 SPELL ('Lib.leZ'). (LAID: no walk: one application.) -/
theorem Tryz.binary_LE_Uint64_z (a : Addr) (n c : Nat) (zs : List Int) (w : World) (hn : 8 ≤ n) (hl : 8 ≤ zs.length) (hcell : ∀ i, i < zs.length → w.cell? (a.add i) = some (.int .u8 (zs.getD i 0))) (hw : ∀ z ∈ zs, (Lit.int .u8 z).wf = true) :
    Calls Tryz.prog 101 #[.agg #[], .slice (some a) n c] w fun e w' => e = .returned (.int .u64 (Lib.leZ (zs.take 8))) ∧ Below w.heap.size w w' := Any.binary_LE_Uint64_z Tryz.laysBin33 a n c zs w hn hl hcell hw
def Tryz.lays187_ren : Go.Shelf.Ren := ⟨fun | 187 => 99 | 255 => 106 | n => n, fun | 37 => 59 | 5 => 5 | 3 => 3 | n => n, fun | n => n⟩
theorem Tryz.lays187 : Go.Proofs.Lays.n187 Tryz.prog Tryz.lays187_ren := {
  mixed := by kernel_rfl
  f187 := Tryz.func99.trans (congrArg some (by kernel_rfl))
  f255 := Tryz.func106.trans (congrArg some (by kernel_rfl))
  t3 := Tryz.underlying3
  a3 := Tryz.isAgg3
  z3 := Tryz.sizeOf3
  v3 := Tryz.zeroValue3
  t5 := Tryz.underlying5
  a5 := Tryz.isAgg5
  z5 := Tryz.sizeOf5
  v5 := Tryz.zeroValue5
  t37 := Tryz.underlying59
  a37 := Tryz.isAgg59
  z37 := Tryz.sizeOf59
  v37 := Tryz.zeroValue59 }
/-- bytes.IndexByte: "IndexByte returns the index of the first instance of c in b, or -1 if c is not present in b.": IT RETURNS 'Lib.indexByte (the bytes of b) c'; the world is as it was. 'xs': the numbers that the slice's cells hold. (LAID: no walk: one application.) -/
theorem Tryz.bytes_IndexByte (b o n c : Nat) (xs : List Int) (cv : Int) (w : World) (hx : xs.length = n) (hc : ∀ i, i < n → w.cell? ⟨b, o + i, none⟩ = some (.int .u8 (xs.getD i 0))) :
    Calls Tryz.prog 99 #[.slice (some ⟨b, o, none⟩) n c, .int .u8 cv] w fun e w' => e = .returned (.int .i64 (Lib.indexByte (Lib.bytesOf xs) cv.toNat.toUInt8)) ∧ w' = w := Any.bytes_IndexByte Tryz.lays187 b o n c xs cv w hx hc
/-- bytes.IndexByte AT nil: -1. (LAID: no walk: one application.) -/
theorem Tryz.bytes_IndexByte_nil (cv : Int) (w : World) :
    Calls Tryz.prog 99 #[.slice none 0 0, .int .u8 cv] w fun e w' => e = .returned (.int .i64 (-1)) ∧ w' = w := Any.bytes_IndexByte_nil Tryz.lays187 cv w
end Go.Proofs
