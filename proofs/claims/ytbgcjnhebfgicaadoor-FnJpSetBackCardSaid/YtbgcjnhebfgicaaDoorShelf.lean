/- The kit's contracts of Go's own library, laid at this seat's numbers by the kit's tools lay-shelf and lay-plain. -/
import Derived.Shelf.Strconv.Atoi
import Derived.Ground.MnProg
import Derived.Shelf.Bin.LEUint64
import Derived.Shelf.Bin.ReadersZ
import Derived.Shelf.Bytes.IndexByte
import Derived.Test.YtbgcjnhebfgicaaDoorProg
namespace Go.Proofs
open Go.Shelf
def Tryd.lays244_ren : Go.Shelf.Ren := ⟨fun | 244 => 93 | 247 => 99 | 287 => 105 | 321 => 108 | 322 => 109 | n => n, fun | 9 => 9 | 3 => 3 | 75 => 68 | 4 => 4 | 5 => 5 | 167 => 150 | 37 => 65 | 0 => 0 | 85 => 151 | 2 => 2 | 53 => 53 | 175 => 157 | 46 => 149 | 21 => 21 | 80 => 175 | n => n, fun | n => n⟩
theorem Tryd.lays244 : Go.Proofs.Lays.n244 Tryd.prog Tryd.lays244_ren := {
  mixed := by kernel_rfl
  f244 := Tryd.func93.trans (congrArg some (by kernel_rfl))
  f247 := Tryd.func99.trans (congrArg some (by kernel_rfl))
  f287 := Tryd.func105.trans (congrArg some (by kernel_rfl))
  f321 := Tryd.func108.trans (congrArg some (by kernel_rfl))
  f322 := Tryd.func109.trans (congrArg some (by kernel_rfl))
  t0 := Tryd.underlying0
  a0 := Tryd.isAgg0
  z0 := Tryd.sizeOf0
  v0 := Tryd.zeroValue0
  t2 := Tryd.underlying2
  a2 := Tryd.isAgg2
  z2 := Tryd.sizeOf2
  v2 := Tryd.zeroValue2
  t3 := Tryd.underlying3
  a3 := Tryd.isAgg3
  z3 := Tryd.sizeOf3
  v3 := Tryd.zeroValue3
  t4 := Tryd.underlying4
  a4 := Tryd.isAgg4
  z4 := Tryd.sizeOf4
  v4 := Tryd.zeroValue4
  t5 := Tryd.underlying5
  a5 := Tryd.isAgg5
  z5 := Tryd.sizeOf5
  v5 := Tryd.zeroValue5
  t9 := Tryd.underlying9
  a9 := Tryd.isAgg9
  z9 := Tryd.sizeOf9
  v9 := Tryd.zeroValue9
  t21 := Tryd.underlying21
  a21 := Tryd.isAgg21
  z21 := Tryd.sizeOf21
  v21 := Tryd.zeroValue21
  t37 := Tryd.underlying65
  a37 := Tryd.isAgg65
  z37 := Tryd.sizeOf65
  v37 := Tryd.zeroValue65
  t46 := Tryd.underlying149
  a46 := Tryd.isAgg149
  z46 := Tryd.sizeOf149
  v46 := Tryd.zeroValue149
  t53 := Tryd.underlying53
  a53 := Tryd.isAgg53
  z53 := Tryd.sizeOf53
  v53 := Tryd.zeroValue53
  t75 := Tryd.underlying68
  a75 := Tryd.isAgg68
  z75 := Tryd.sizeOf68
  v75 := Tryd.zeroValue68
  t85 := Tryd.underlying151
  a85 := Tryd.isAgg151
  z85 := Tryd.sizeOf151
  v85 := Tryd.zeroValue151
  t167 := Tryd.underlying150
  a167 := Tryd.isAgg150
  z167 := Tryd.sizeOf150
  v167 := Tryd.zeroValue150
  t175 := Tryd.underlying157
  a175 := Tryd.isAgg157
  z175 := Tryd.sizeOf157
  v175 := Tryd.zeroValue157 }
open Go.RowKit in
/-- internal/strconv.Atoi, at a decimal numeral of at most 18 bytes: ITS VALUE, AND NO ERROR. The world behind the call: the one new row that '[]byte(s)' lays. (LAID: no walk: one application.) -/
theorem Tryd.internal_strconv_Atoi (s : ByteArray) (n : Int) (hl : s.size ≤ 18) (h : Lib.atoi s.data.toList = some n) (w : World) :
    Calls Tryd.prog 93 #[.string s] w fun e w' => e = .returned (.tuple #[.int .i64 n, .nilIface]) ∧ ∃ t, w' = Lib.bytesWorld w 5 t := Any.internal_strconv_Atoi Tryd.lays244 s n hl h w
def Tryd.lays172_ren : Go.Shelf.Ren := ⟨fun | 172 => 83 | 244 => 93 | 245 => 94 | 247 => 99 | 279 => 100 | 280 => 101 | 281 => 102 | 282 => 103 | 287 => 105 | 316 => 106 | 171 => 107 | 205 => 51 | 321 => 108 | 322 => 109 | 243 => 110 | 246 => 111 | 283 => 112 | 284 => 113 | 285 => 114 | 286 => 115 | 129 => 117 | 317 => 116 | 318 => 118 | 319 => 119 | 320 => 120 | 337 => 121 | 338 => 122 | n => n, fun | 9 => 9 | 3 => 3 | 75 => 68 | 76 => 121 | 4 => 4 | 5 => 5 | 167 => 150 | 37 => 65 | 0 => 0 | 85 => 151 | 2 => 2 | 168 => 153 | 53 => 53 | 175 => 157 | 46 => 149 | 210 => 160 | 127 => 162 | 145 => 118 | 143 => 116 | 21 => 21 | 171 => 164 | 173 => 167 | 212 => 170 | 51 => 148 | 20 => 20 | 213 => 171 | 232 => 174 | 233 => 99 | 80 => 175 | n => n, fun | 15 => 13 | 16 => 14 | 17 => 15 | 18 => 16 | 19 => 17 | n => n⟩
theorem Tryd.lays172 : Go.Proofs.Lays.n172 Tryd.prog Tryd.lays172_ren := {
  mixed := by kernel_rfl
  f129 := Tryd.func117.trans (congrArg some (by kernel_rfl))
  f171 := Tryd.func107.trans (congrArg some (by kernel_rfl))
  f172 := Tryd.func83.trans (congrArg some (by kernel_rfl))
  f205 := Tryd.func51.trans (congrArg some (by kernel_rfl))
  f243 := Tryd.func110.trans (congrArg some (by kernel_rfl))
  f244 := Tryd.func93.trans (congrArg some (by kernel_rfl))
  f245 := Tryd.func94.trans (congrArg some (by kernel_rfl))
  f246 := Tryd.func111.trans (congrArg some (by kernel_rfl))
  f247 := Tryd.func99.trans (congrArg some (by kernel_rfl))
  f279 := Tryd.func100.trans (congrArg some (by kernel_rfl))
  f280 := Tryd.func101.trans (congrArg some (by kernel_rfl))
  f281 := Tryd.func102.trans (congrArg some (by kernel_rfl))
  f282 := Tryd.func103.trans (congrArg some (by kernel_rfl))
  f283 := Tryd.func112.trans (congrArg some (by kernel_rfl))
  f284 := Tryd.func113.trans (congrArg some (by kernel_rfl))
  f285 := Tryd.func114.trans (congrArg some (by kernel_rfl))
  f286 := Tryd.func115.trans (congrArg some (by kernel_rfl))
  f287 := Tryd.func105.trans (congrArg some (by kernel_rfl))
  f316 := Tryd.func106.trans (congrArg some (by kernel_rfl))
  f317 := Tryd.func116.trans (congrArg some (by kernel_rfl))
  f318 := Tryd.func118.trans (congrArg some (by kernel_rfl))
  f319 := Tryd.func119.trans (congrArg some (by kernel_rfl))
  f320 := Tryd.func120.trans (congrArg some (by kernel_rfl))
  f321 := Tryd.func108.trans (congrArg some (by kernel_rfl))
  f322 := Tryd.func109.trans (congrArg some (by kernel_rfl))
  f337 := Tryd.func121.trans (congrArg some (by kernel_rfl))
  f338 := Tryd.func122.trans (congrArg some (by kernel_rfl))
  t0 := Tryd.underlying0
  a0 := Tryd.isAgg0
  z0 := Tryd.sizeOf0
  v0 := Tryd.zeroValue0
  t2 := Tryd.underlying2
  a2 := Tryd.isAgg2
  z2 := Tryd.sizeOf2
  v2 := Tryd.zeroValue2
  t3 := Tryd.underlying3
  a3 := Tryd.isAgg3
  z3 := Tryd.sizeOf3
  v3 := Tryd.zeroValue3
  t4 := Tryd.underlying4
  a4 := Tryd.isAgg4
  z4 := Tryd.sizeOf4
  v4 := Tryd.zeroValue4
  t5 := Tryd.underlying5
  a5 := Tryd.isAgg5
  z5 := Tryd.sizeOf5
  v5 := Tryd.zeroValue5
  t9 := Tryd.underlying9
  a9 := Tryd.isAgg9
  z9 := Tryd.sizeOf9
  v9 := Tryd.zeroValue9
  t20 := Tryd.underlying20
  a20 := Tryd.isAgg20
  z20 := Tryd.sizeOf20
  v20 := Tryd.zeroValue20
  t21 := Tryd.underlying21
  a21 := Tryd.isAgg21
  z21 := Tryd.sizeOf21
  v21 := Tryd.zeroValue21
  t37 := Tryd.underlying65
  a37 := Tryd.isAgg65
  z37 := Tryd.sizeOf65
  v37 := Tryd.zeroValue65
  t46 := Tryd.underlying149
  a46 := Tryd.isAgg149
  z46 := Tryd.sizeOf149
  v46 := Tryd.zeroValue149
  t51 := Tryd.underlying148
  a51 := Tryd.isAgg148
  z51 := Tryd.sizeOf148
  v51 := Tryd.zeroValue148
  t53 := Tryd.underlying53
  a53 := Tryd.isAgg53
  z53 := Tryd.sizeOf53
  v53 := Tryd.zeroValue53
  t75 := Tryd.underlying68
  a75 := Tryd.isAgg68
  z75 := Tryd.sizeOf68
  v75 := Tryd.zeroValue68
  t76 := Tryd.underlying121
  a76 := Tryd.isAgg121
  z76 := Tryd.sizeOf121
  v76 := Tryd.zeroValue121
  t85 := Tryd.underlying151
  a85 := Tryd.isAgg151
  z85 := Tryd.sizeOf151
  v85 := Tryd.zeroValue151
  t127 := Tryd.underlying162
  a127 := Tryd.isAgg162
  z127 := Tryd.sizeOf162
  v127 := Tryd.zeroValue162
  t143 := Tryd.underlying116
  a143 := Tryd.isAgg116
  z143 := Tryd.sizeOf116
  v143 := Tryd.zeroValue116
  t145 := Tryd.underlying118
  a145 := Tryd.isAgg118
  z145 := Tryd.sizeOf118
  v145 := Tryd.zeroValue118
  t167 := Tryd.underlying150
  a167 := Tryd.isAgg150
  z167 := Tryd.sizeOf150
  v167 := Tryd.zeroValue150
  t168 := Tryd.underlying153
  a168 := Tryd.isAgg153
  z168 := Tryd.sizeOf153
  v168 := Tryd.zeroValue153
  t171 := Tryd.underlying164
  a171 := Tryd.isAgg164
  z171 := Tryd.sizeOf164
  v171 := Tryd.zeroValue164
  t173 := Tryd.underlying167
  a173 := Tryd.isAgg167
  z173 := Tryd.sizeOf167
  v173 := Tryd.zeroValue167
  t175 := Tryd.underlying157
  a175 := Tryd.isAgg157
  z175 := Tryd.sizeOf157
  v175 := Tryd.zeroValue157
  t210 := Tryd.underlying160
  a210 := Tryd.isAgg160
  z210 := Tryd.sizeOf160
  v210 := Tryd.zeroValue160
  t212 := Tryd.underlying170
  a212 := Tryd.isAgg170
  z212 := Tryd.sizeOf170
  v212 := Tryd.zeroValue170
  t213 := Tryd.underlying171
  a213 := Tryd.isAgg171
  z213 := Tryd.sizeOf171
  t232 := Tryd.underlying174
  a232 := Tryd.isAgg174
  z232 := Tryd.sizeOf174
  v232 := Tryd.zeroValue174
  t233 := Tryd.underlying99
  a233 := Tryd.isAgg99
  z233 := Tryd.sizeOf99
  v233 := Tryd.zeroValue99
  g15 := by kernel_rfl
  g16 := by kernel_rfl
  g17 := by kernel_rfl
  g18 := by kernel_rfl
  g19 := by kernel_rfl }
open Go.RowKit in
/-- strconv.Atoi: "Atoi is equivalent to ParseInt(s, 10, 0), converted to type int.": AT A DECIMAL NUMERAL OF AT MOST 18 BYTES: its value, and a nil error. The world behind the call: the one new row that the library's '[]byte(s)' lays. (LAID: no walk: one application.) -/
theorem Tryd.strconv_Atoi (s : ByteArray) (n : Int) (hl : s.size ≤ 18) (h : Lib.atoi s.data.toList = some n) (w : World) :
    Calls Tryd.prog 83 #[.string s] w fun e w' => e = .returned (.tuple #[.int .i64 n, .nilIface]) ∧ ∃ t, w' = Lib.bytesWorld w 5 t := Any.strconv_Atoi Tryd.lays172 s n hl h w
def Tryd.laysBin33_ren : Go.Shelf.Ren := ⟨fun | 33 => 92 | n => n, fun | 25 => 141 | 22 => 65 | 33 => 53 | 0 => 0 | 5 => 5 | 45 => 149 | n => n, fun | n => n⟩
theorem Tryd.laysBin33 : Go.Proofs.LaysBin.n33 Tryd.prog Tryd.laysBin33_ren := {
  mixed := by kernel_rfl
  f33 := Tryd.func92.trans (congrArg some (by kernel_rfl))
  t0 := Tryd.underlying0
  a0 := Tryd.isAgg0
  z0 := Tryd.sizeOf0
  v0 := Tryd.zeroValue0
  i0 := by kernel_rfl
  t5 := Tryd.underlying5
  a5 := Tryd.isAgg5
  z5 := Tryd.sizeOf5
  v5 := Tryd.zeroValue5
  i5 := by kernel_rfl
  t22 := Tryd.underlying65
  a22 := Tryd.isAgg65
  z22 := Tryd.sizeOf65
  v22 := Tryd.zeroValue65
  i22 := by kernel_rfl
  t25 := Tryd.underlying141
  a25 := Tryd.isAgg141
  z25 := Tryd.sizeOf141
  v25 := Tryd.zeroValue141
  i25 := by kernel_rfl
  t33 := Tryd.underlying53
  a33 := Tryd.isAgg53
  z33 := Tryd.sizeOf53
  v33 := Tryd.zeroValue53
  i33 := by kernel_rfl
  t45 := Tryd.underlying149
  a45 := Tryd.isAgg149
  z45 := Tryd.sizeOf149
  v45 := Tryd.zeroValue149
  i45 := by kernel_rfl }
open Go.RowKit in
/-- binary.LittleEndian.Uint64: "Uint64 returns the uint64 representation of b[0:8].": THE NUMBER THAT THE FIRST 8 BYTES SPELL, the least byte first ('Lib.leNat'). Of what was there nothing has turned (the receiver, an empty struct, is laid in a new block without cells; the statement's order is drawn). (LAID: no walk: one application.) -/
theorem Tryd.binary_LE_Uint64 (g o n c : Nat) (b0 b1 b2 b3 b4 b5 b6 b7 : UInt8) (w : World) (hn : 8 ≤ n) (c0 : w.cell? ⟨g, o, none⟩ = some (.int .u8 b0.toNat)) (c1 : w.cell? ⟨g, o + 1, none⟩ = some (.int .u8 b1.toNat)) (c2 : w.cell? ⟨g, o + 2, none⟩ = some (.int .u8 b2.toNat)) (c3 : w.cell? ⟨g, o + 3, none⟩ = some (.int .u8 b3.toNat)) (c4 : w.cell? ⟨g, o + 4, none⟩ = some (.int .u8 b4.toNat)) (c5 : w.cell? ⟨g, o + 5, none⟩ = some (.int .u8 b5.toNat)) (c6 : w.cell? ⟨g, o + 6, none⟩ = some (.int .u8 b6.toNat)) (c7 : w.cell? ⟨g, o + 7, none⟩ = some (.int .u8 b7.toNat)) :
    Calls Tryd.prog 92 #[.agg #[], .slice (some ⟨g, o, none⟩) n c] w fun e w' => e = .returned (.int .u64 (Lib.leNat [b0, b1, b2, b3, b4, b5, b6, b7])) ∧ Below w.heap.size w w' := Any.binary_LE_Uint64 Tryd.laysBin33 g o n c b0 b1 b2 b3 b4 b5 b6 b7 w hn c0 c1 c2 c3 c4 c5 c6 c7
open Go.RowKit in
/-- binary.LittleEndian.Uint64, ITS PREMISES 'open_ints'' CONCLUSION TO THE LETTER: a slice at WHATEVER address a, the numbers zs that its cells hold: THE NUMBER THAT THE FIRST 8 SPELL ('Lib.leZ'). (LAID: no walk: one application.) -/
theorem Tryd.binary_LE_Uint64_z (a : Addr) (n c : Nat) (zs : List Int) (w : World) (hn : 8 ≤ n) (hl : 8 ≤ zs.length) (hcell : ∀ i, i < zs.length → w.cell? (a.add i) = some (.int .u8 (zs.getD i 0))) (hw : ∀ z ∈ zs, (Lit.int .u8 z).wf = true) :
    Calls Tryd.prog 92 #[.agg #[], .slice (some a) n c] w fun e w' => e = .returned (.int .u64 (Lib.leZ (zs.take 8))) ∧ Below w.heap.size w w' := Any.binary_LE_Uint64_z Tryd.laysBin33 a n c zs w hn hl hcell hw
def Tryd.lays187_ren : Go.Shelf.Ren := ⟨fun | 187 => 52 | 255 => 69 | n => n, fun | 37 => 65 | 5 => 5 | 3 => 3 | n => n, fun | n => n⟩
theorem Tryd.lays187 : Go.Proofs.Lays.n187 Tryd.prog Tryd.lays187_ren := {
  mixed := by kernel_rfl
  f187 := Tryd.func52.trans (congrArg some (by kernel_rfl))
  f255 := Tryd.func69.trans (congrArg some (by kernel_rfl))
  t3 := Tryd.underlying3
  a3 := Tryd.isAgg3
  z3 := Tryd.sizeOf3
  v3 := Tryd.zeroValue3
  t5 := Tryd.underlying5
  a5 := Tryd.isAgg5
  z5 := Tryd.sizeOf5
  v5 := Tryd.zeroValue5
  t37 := Tryd.underlying65
  a37 := Tryd.isAgg65
  z37 := Tryd.sizeOf65
  v37 := Tryd.zeroValue65 }
/-- bytes.IndexByte: "IndexByte returns the index of the first instance of c in b, or -1 if c is not present in b.": IT RETURNS 'Lib.indexByte (the bytes of b) c'; the world is as it was. 'xs': the numbers that the slice's cells hold. (LAID: no walk: one application.) -/
theorem Tryd.bytes_IndexByte (b o n c : Nat) (xs : List Int) (cv : Int) (w : World) (hx : xs.length = n) (hc : ∀ i, i < n → w.cell? ⟨b, o + i, none⟩ = some (.int .u8 (xs.getD i 0))) :
    Calls Tryd.prog 52 #[.slice (some ⟨b, o, none⟩) n c, .int .u8 cv] w fun e w' => e = .returned (.int .i64 (Lib.indexByte (Lib.bytesOf xs) cv.toNat.toUInt8)) ∧ w' = w := Any.bytes_IndexByte Tryd.lays187 b o n c xs cv w hx hc
/-- bytes.IndexByte AT nil: -1. (LAID: no walk: one application.) -/
theorem Tryd.bytes_IndexByte_nil (cv : Int) (w : World) :
    Calls Tryd.prog 52 #[.slice none 0 0, .int .u8 cv] w fun e w' => e = .returned (.int .i64 (-1)) ∧ w' = w := Any.bytes_IndexByte_nil Tryd.lays187 cv w
end Go.Proofs
