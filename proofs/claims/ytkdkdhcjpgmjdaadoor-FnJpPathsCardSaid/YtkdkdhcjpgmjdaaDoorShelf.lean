/- The kit's contracts of Go's own library, laid at this seat's numbers by the kit's tools lay-shelf and lay-plain. -/
import Derived.Shelf.Strconv.Atoi
import Derived.Ground.MnProg
import Derived.Shelf.Bin.LEUint64
import Derived.Shelf.Bin.ReadersZ
import Derived.Shelf.Bytes.IndexByte
import Derived.Test.YtkdkdhcjpgmjdaaDoorProg
namespace Go.Proofs
open Go.Shelf
def Tryd.lays244_ren : Go.Shelf.Ren := ⟨fun | 244 => 75 | 247 => 81 | 287 => 90 | 321 => 95 | 322 => 96 | n => n, fun | 9 => 9 | 3 => 3 | 75 => 61 | 4 => 4 | 5 => 5 | 167 => 126 | 37 => 58 | 0 => 0 | 85 => 127 | 2 => 2 | 53 => 47 | 175 => 137 | 46 => 125 | 21 => 21 | 80 => 160 | n => n, fun | n => n⟩
theorem Tryd.lays244 : Go.Proofs.Lays.n244 Tryd.prog Tryd.lays244_ren := {
  mixed := by kernel_rfl
  f244 := Tryd.func75.trans (congrArg some (by kernel_rfl))
  f247 := Tryd.func81.trans (congrArg some (by kernel_rfl))
  f287 := Tryd.func90.trans (congrArg some (by kernel_rfl))
  f321 := Tryd.func95.trans (congrArg some (by kernel_rfl))
  f322 := Tryd.func96.trans (congrArg some (by kernel_rfl))
  t0 := Tryd.underlying0
  a0 := Tryd.isAgg0
  z0 := Tryd.sizeOf0
  v0 := Tryd.zeroValue0
  t2 := Tryd.underlying2
  a2 := Tryd.isAgg2
  z2 := Tryd.sizeOf2
  v2 := Tryd.zeroValue2
  t3 := Tryd.underlying3
  a3 := Tryd.isAgg3
  z3 := Tryd.sizeOf3
  v3 := Tryd.zeroValue3
  t4 := Tryd.underlying4
  a4 := Tryd.isAgg4
  z4 := Tryd.sizeOf4
  v4 := Tryd.zeroValue4
  t5 := Tryd.underlying5
  a5 := Tryd.isAgg5
  z5 := Tryd.sizeOf5
  v5 := Tryd.zeroValue5
  t9 := Tryd.underlying9
  a9 := Tryd.isAgg9
  z9 := Tryd.sizeOf9
  v9 := Tryd.zeroValue9
  t21 := Tryd.underlying21
  a21 := Tryd.isAgg21
  z21 := Tryd.sizeOf21
  v21 := Tryd.zeroValue21
  t37 := Tryd.underlying58
  a37 := Tryd.isAgg58
  z37 := Tryd.sizeOf58
  v37 := Tryd.zeroValue58
  t46 := Tryd.underlying125
  a46 := Tryd.isAgg125
  z46 := Tryd.sizeOf125
  v46 := Tryd.zeroValue125
  t53 := Tryd.underlying47
  a53 := Tryd.isAgg47
  z53 := Tryd.sizeOf47
  v53 := Tryd.zeroValue47
  t75 := Tryd.underlying61
  a75 := Tryd.isAgg61
  z75 := Tryd.sizeOf61
  v75 := Tryd.zeroValue61
  t85 := Tryd.underlying127
  a85 := Tryd.isAgg127
  z85 := Tryd.sizeOf127
  v85 := Tryd.zeroValue127
  t167 := Tryd.underlying126
  a167 := Tryd.isAgg126
  z167 := Tryd.sizeOf126
  v167 := Tryd.zeroValue126
  t175 := Tryd.underlying137
  a175 := Tryd.isAgg137
  z175 := Tryd.sizeOf137
  v175 := Tryd.zeroValue137 }
open Go.RowKit in
/-- internal/strconv.Atoi, at a decimal numeral of at most 18 bytes: ITS VALUE, AND NO ERROR. The world behind the call: the one new row that '[]byte(s)' lays. (LAID: no walk: one application.) -/
theorem Tryd.internal_strconv_Atoi (s : ByteArray) (n : Int) (hl : s.size ≤ 18) (h : Lib.atoi s.data.toList = some n) (w : World) :
    Calls Tryd.prog 75 #[.string s] w fun e w' => e = .returned (.tuple #[.int .i64 n, .nilIface]) ∧ ∃ t, w' = Lib.bytesWorld w 5 t := Any.internal_strconv_Atoi Tryd.lays244 s n hl h w
def Tryd.lays172_ren : Go.Shelf.Ren := ⟨fun | 172 => 69 | 244 => 75 | 245 => 76 | 247 => 81 | 279 => 82 | 280 => 83 | 281 => 84 | 282 => 85 | 287 => 90 | 316 => 91 | 171 => 93 | 205 => 92 | 321 => 95 | 322 => 96 | 243 => 97 | 246 => 98 | 283 => 99 | 284 => 100 | 285 => 101 | 286 => 102 | 129 => 104 | 317 => 103 | 318 => 105 | 319 => 106 | 320 => 107 | 337 => 108 | 338 => 109 | n => n, fun | 9 => 9 | 3 => 3 | 75 => 61 | 76 => 96 | 4 => 4 | 5 => 5 | 167 => 126 | 37 => 58 | 0 => 0 | 85 => 127 | 2 => 2 | 168 => 129 | 53 => 47 | 175 => 137 | 46 => 125 | 210 => 140 | 127 => 144 | 145 => 147 | 143 => 145 | 21 => 21 | 171 => 149 | 173 => 152 | 212 => 155 | 51 => 136 | 20 => 20 | 213 => 156 | 232 => 159 | 233 => 103 | 80 => 160 | n => n, fun | 15 => 11 | 16 => 12 | 17 => 13 | 18 => 14 | 19 => 15 | n => n⟩
theorem Tryd.lays172 : Go.Proofs.Lays.n172 Tryd.prog Tryd.lays172_ren := {
  mixed := by kernel_rfl
  f129 := Tryd.func104.trans (congrArg some (by kernel_rfl))
  f171 := Tryd.func93.trans (congrArg some (by kernel_rfl))
  f172 := Tryd.func69.trans (congrArg some (by kernel_rfl))
  f205 := Tryd.func92.trans (congrArg some (by kernel_rfl))
  f243 := Tryd.func97.trans (congrArg some (by kernel_rfl))
  f244 := Tryd.func75.trans (congrArg some (by kernel_rfl))
  f245 := Tryd.func76.trans (congrArg some (by kernel_rfl))
  f246 := Tryd.func98.trans (congrArg some (by kernel_rfl))
  f247 := Tryd.func81.trans (congrArg some (by kernel_rfl))
  f279 := Tryd.func82.trans (congrArg some (by kernel_rfl))
  f280 := Tryd.func83.trans (congrArg some (by kernel_rfl))
  f281 := Tryd.func84.trans (congrArg some (by kernel_rfl))
  f282 := Tryd.func85.trans (congrArg some (by kernel_rfl))
  f283 := Tryd.func99.trans (congrArg some (by kernel_rfl))
  f284 := Tryd.func100.trans (congrArg some (by kernel_rfl))
  f285 := Tryd.func101.trans (congrArg some (by kernel_rfl))
  f286 := Tryd.func102.trans (congrArg some (by kernel_rfl))
  f287 := Tryd.func90.trans (congrArg some (by kernel_rfl))
  f316 := Tryd.func91.trans (congrArg some (by kernel_rfl))
  f317 := Tryd.func103.trans (congrArg some (by kernel_rfl))
  f318 := Tryd.func105.trans (congrArg some (by kernel_rfl))
  f319 := Tryd.func106.trans (congrArg some (by kernel_rfl))
  f320 := Tryd.func107.trans (congrArg some (by kernel_rfl))
  f321 := Tryd.func95.trans (congrArg some (by kernel_rfl))
  f322 := Tryd.func96.trans (congrArg some (by kernel_rfl))
  f337 := Tryd.func108.trans (congrArg some (by kernel_rfl))
  f338 := Tryd.func109.trans (congrArg some (by kernel_rfl))
  t0 := Tryd.underlying0
  a0 := Tryd.isAgg0
  z0 := Tryd.sizeOf0
  v0 := Tryd.zeroValue0
  t2 := Tryd.underlying2
  a2 := Tryd.isAgg2
  z2 := Tryd.sizeOf2
  v2 := Tryd.zeroValue2
  t3 := Tryd.underlying3
  a3 := Tryd.isAgg3
  z3 := Tryd.sizeOf3
  v3 := Tryd.zeroValue3
  t4 := Tryd.underlying4
  a4 := Tryd.isAgg4
  z4 := Tryd.sizeOf4
  v4 := Tryd.zeroValue4
  t5 := Tryd.underlying5
  a5 := Tryd.isAgg5
  z5 := Tryd.sizeOf5
  v5 := Tryd.zeroValue5
  t9 := Tryd.underlying9
  a9 := Tryd.isAgg9
  z9 := Tryd.sizeOf9
  v9 := Tryd.zeroValue9
  t20 := Tryd.underlying20
  a20 := Tryd.isAgg20
  z20 := Tryd.sizeOf20
  v20 := Tryd.zeroValue20
  t21 := Tryd.underlying21
  a21 := Tryd.isAgg21
  z21 := Tryd.sizeOf21
  v21 := Tryd.zeroValue21
  t37 := Tryd.underlying58
  a37 := Tryd.isAgg58
  z37 := Tryd.sizeOf58
  v37 := Tryd.zeroValue58
  t46 := Tryd.underlying125
  a46 := Tryd.isAgg125
  z46 := Tryd.sizeOf125
  v46 := Tryd.zeroValue125
  t51 := Tryd.underlying136
  a51 := Tryd.isAgg136
  z51 := Tryd.sizeOf136
  v51 := Tryd.zeroValue136
  t53 := Tryd.underlying47
  a53 := Tryd.isAgg47
  z53 := Tryd.sizeOf47
  v53 := Tryd.zeroValue47
  t75 := Tryd.underlying61
  a75 := Tryd.isAgg61
  z75 := Tryd.sizeOf61
  v75 := Tryd.zeroValue61
  t76 := Tryd.underlying96
  a76 := Tryd.isAgg96
  z76 := Tryd.sizeOf96
  v76 := Tryd.zeroValue96
  t85 := Tryd.underlying127
  a85 := Tryd.isAgg127
  z85 := Tryd.sizeOf127
  v85 := Tryd.zeroValue127
  t127 := Tryd.underlying144
  a127 := Tryd.isAgg144
  z127 := Tryd.sizeOf144
  v127 := Tryd.zeroValue144
  t143 := Tryd.underlying145
  a143 := Tryd.isAgg145
  z143 := Tryd.sizeOf145
  v143 := Tryd.zeroValue145
  t145 := Tryd.underlying147
  a145 := Tryd.isAgg147
  z145 := Tryd.sizeOf147
  v145 := Tryd.zeroValue147
  t167 := Tryd.underlying126
  a167 := Tryd.isAgg126
  z167 := Tryd.sizeOf126
  v167 := Tryd.zeroValue126
  t168 := Tryd.underlying129
  a168 := Tryd.isAgg129
  z168 := Tryd.sizeOf129
  v168 := Tryd.zeroValue129
  t171 := Tryd.underlying149
  a171 := Tryd.isAgg149
  z171 := Tryd.sizeOf149
  v171 := Tryd.zeroValue149
  t173 := Tryd.underlying152
  a173 := Tryd.isAgg152
  z173 := Tryd.sizeOf152
  v173 := Tryd.zeroValue152
  t175 := Tryd.underlying137
  a175 := Tryd.isAgg137
  z175 := Tryd.sizeOf137
  v175 := Tryd.zeroValue137
  t210 := Tryd.underlying140
  a210 := Tryd.isAgg140
  z210 := Tryd.sizeOf140
  v210 := Tryd.zeroValue140
  t212 := Tryd.underlying155
  a212 := Tryd.isAgg155
  z212 := Tryd.sizeOf155
  v212 := Tryd.zeroValue155
  t213 := Tryd.underlying156
  a213 := Tryd.isAgg156
  z213 := Tryd.sizeOf156
  t232 := Tryd.underlying159
  a232 := Tryd.isAgg159
  z232 := Tryd.sizeOf159
  v232 := Tryd.zeroValue159
  t233 := Tryd.underlying103
  a233 := Tryd.isAgg103
  z233 := Tryd.sizeOf103
  v233 := Tryd.zeroValue103
  g15 := by kernel_rfl
  g16 := by kernel_rfl
  g17 := by kernel_rfl
  g18 := by kernel_rfl
  g19 := by kernel_rfl }
open Go.RowKit in
/-- strconv.Atoi: "Atoi is equivalent to ParseInt(s, 10, 0), converted to type int.": AT A DECIMAL NUMERAL OF AT MOST 18 BYTES: its value, and a nil error. The world behind the call: the one new row that the library's '[]byte(s)' lays. (LAID: no walk: one application.) -/
theorem Tryd.strconv_Atoi (s : ByteArray) (n : Int) (hl : s.size ≤ 18) (h : Lib.atoi s.data.toList = some n) (w : World) :
    Calls Tryd.prog 69 #[.string s] w fun e w' => e = .returned (.tuple #[.int .i64 n, .nilIface]) ∧ ∃ t, w' = Lib.bytesWorld w 5 t := Any.strconv_Atoi Tryd.lays172 s n hl h w
def Tryd.laysBin33_ren : Go.Shelf.Ren := ⟨fun | 33 => 74 | n => n, fun | 25 => 118 | 22 => 58 | 33 => 47 | 0 => 0 | 5 => 5 | 45 => 125 | n => n, fun | n => n⟩
theorem Tryd.laysBin33 : Go.Proofs.LaysBin.n33 Tryd.prog Tryd.laysBin33_ren := {
  mixed := by kernel_rfl
  f33 := Tryd.func74.trans (congrArg some (by kernel_rfl))
  t0 := Tryd.underlying0
  a0 := Tryd.isAgg0
  z0 := Tryd.sizeOf0
  v0 := Tryd.zeroValue0
  i0 := by kernel_rfl
  t5 := Tryd.underlying5
  a5 := Tryd.isAgg5
  z5 := Tryd.sizeOf5
  v5 := Tryd.zeroValue5
  i5 := by kernel_rfl
  t22 := Tryd.underlying58
  a22 := Tryd.isAgg58
  z22 := Tryd.sizeOf58
  v22 := Tryd.zeroValue58
  i22 := by kernel_rfl
  t25 := Tryd.underlying118
  a25 := Tryd.isAgg118
  z25 := Tryd.sizeOf118
  v25 := Tryd.zeroValue118
  i25 := by kernel_rfl
  t33 := Tryd.underlying47
  a33 := Tryd.isAgg47
  z33 := Tryd.sizeOf47
  v33 := Tryd.zeroValue47
  i33 := by kernel_rfl
  t45 := Tryd.underlying125
  a45 := Tryd.isAgg125
  z45 := Tryd.sizeOf125
  v45 := Tryd.zeroValue125
  i45 := by kernel_rfl }
open Go.RowKit in
/-- binary.LittleEndian.Uint64: "Uint64 returns the uint64 representation of b[0:8].": THE NUMBER THAT THE FIRST 8 BYTES SPELL, the least byte first ('Lib.leNat'). Of what was there nothing has turned (the receiver, an empty struct, is laid in a new block without cells; the statement's order is drawn). (LAID: no walk: one application.) -/
theorem Tryd.binary_LE_Uint64 (g o n c : Nat) (b0 b1 b2 b3 b4 b5 b6 b7 : UInt8) (w : World) (hn : 8 ≤ n) (c0 : w.cell? ⟨g, o, none⟩ = some (.int .u8 b0.toNat)) (c1 : w.cell? ⟨g, o + 1, none⟩ = some (.int .u8 b1.toNat)) (c2 : w.cell? ⟨g, o + 2, none⟩ = some (.int .u8 b2.toNat)) (c3 : w.cell? ⟨g, o + 3, none⟩ = some (.int .u8 b3.toNat)) (c4 : w.cell? ⟨g, o + 4, none⟩ = some (.int .u8 b4.toNat)) (c5 : w.cell? ⟨g, o + 5, none⟩ = some (.int .u8 b5.toNat)) (c6 : w.cell? ⟨g, o + 6, none⟩ = some (.int .u8 b6.toNat)) (c7 : w.cell? ⟨g, o + 7, none⟩ = some (.int .u8 b7.toNat)) :
    Calls Tryd.prog 74 #[.agg #[], .slice (some ⟨g, o, none⟩) n c] w fun e w' => e = .returned (.int .u64 (Lib.leNat [b0, b1, b2, b3, b4, b5, b6, b7])) ∧ Below w.heap.size w w' := Any.binary_LE_Uint64 Tryd.laysBin33 g o n c b0 b1 b2 b3 b4 b5 b6 b7 w hn c0 c1 c2 c3 c4 c5 c6 c7
open Go.RowKit in
/-- binary.LittleEndian.Uint64, ITS PREMISES 'open_ints'' CONCLUSION TO THE LETTER: a slice at WHATEVER address a, the numbers zs that its cells hold: THE NUMBER THAT THE FIRST 8 SPELL ('Lib.leZ'). (LAID: no walk: one application.) -/
theorem Tryd.binary_LE_Uint64_z (a : Addr) (n c : Nat) (zs : List Int) (w : World) (hn : 8 ≤ n) (hl : 8 ≤ zs.length) (hcell : ∀ i, i < zs.length → w.cell? (a.add i) = some (.int .u8 (zs.getD i 0))) (hw : ∀ z ∈ zs, (Lit.int .u8 z).wf = true) :
    Calls Tryd.prog 74 #[.agg #[], .slice (some a) n c] w fun e w' => e = .returned (.int .u64 (Lib.leZ (zs.take 8))) ∧ Below w.heap.size w w' := Any.binary_LE_Uint64_z Tryd.laysBin33 a n c zs w hn hl hcell hw
def Tryd.lays187_ren : Go.Shelf.Ren := ⟨fun | 187 => 72 | 255 => 78 | n => n, fun | 37 => 58 | 5 => 5 | 3 => 3 | n => n, fun | n => n⟩
theorem Tryd.lays187 : Go.Proofs.Lays.n187 Tryd.prog Tryd.lays187_ren := {
  mixed := by kernel_rfl
  f187 := Tryd.func72.trans (congrArg some (by kernel_rfl))
  f255 := Tryd.func78.trans (congrArg some (by kernel_rfl))
  t3 := Tryd.underlying3
  a3 := Tryd.isAgg3
  z3 := Tryd.sizeOf3
  v3 := Tryd.zeroValue3
  t5 := Tryd.underlying5
  a5 := Tryd.isAgg5
  z5 := Tryd.sizeOf5
  v5 := Tryd.zeroValue5
  t37 := Tryd.underlying58
  a37 := Tryd.isAgg58
  z37 := Tryd.sizeOf58
  v37 := Tryd.zeroValue58 }
/-- bytes.IndexByte: "IndexByte returns the index of the first instance of c in b, or -1 if c is not present in b.": IT RETURNS 'Lib.indexByte (the bytes of b) c'; the world is as it was. 'xs': the numbers that the slice's cells hold. (LAID: no walk: one application.) -/
theorem Tryd.bytes_IndexByte (b o n c : Nat) (xs : List Int) (cv : Int) (w : World) (hx : xs.length = n) (hc : ∀ i, i < n → w.cell? ⟨b, o + i, none⟩ = some (.int .u8 (xs.getD i 0))) :
    Calls Tryd.prog 72 #[.slice (some ⟨b, o, none⟩) n c, .int .u8 cv] w fun e w' => e = .returned (.int .i64 (Lib.indexByte (Lib.bytesOf xs) cv.toNat.toUInt8)) ∧ w' = w := Any.bytes_IndexByte Tryd.lays187 b o n c xs cv w hx hc
/-- bytes.IndexByte AT nil: -1. (LAID: no walk: one application.) -/
theorem Tryd.bytes_IndexByte_nil (cv : Int) (w : World) :
    Calls Tryd.prog 72 #[.slice none 0 0, .int .u8 cv] w fun e w' => e = .returned (.int .i64 (-1)) ∧ w' = w := Any.bytes_IndexByte_nil Tryd.lays187 cv w
end Go.Proofs
