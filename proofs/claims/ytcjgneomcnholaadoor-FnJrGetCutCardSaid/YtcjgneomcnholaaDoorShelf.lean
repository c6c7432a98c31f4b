/- The kit's contracts of Go's own library, laid at this seat's numbers by the kit's tools lay-shelf and lay-plain. -/
import Derived.Shelf.Strconv.Atoi
import Derived.Shelf.Strconv.Itoa0
import Derived.Shelf.Strconv.Itoa1
import Derived.Shelf.LaysM
import Derived.Shelf.Strconv.Itoa2
import Derived.Shelf.Strconv.Itoa3
import Derived.Shelf.Strconv.AtoiErrFast
import Derived.Shelf.Strconv.ParseIntEmpty
import Derived.Shelf.Strconv.AtoiFail
import Derived.Shelf.Strconv.Clone
import Derived.Shelf.Strconv.SyntaxError
import Derived.Shelf.LaysC
import Derived.Shelf.Strconv.ToError
import Derived.Shelf.Strconv.AtoiErr
import Derived.Shelf.Strconv.ErrVar
import Derived.Ground.MnProg
import Derived.Shelf.Bin.LEUint64
import Derived.Shelf.Bin.LEUint64Panics
import Derived.Shelf.Strconv.Lower
import Derived.Shelf.Strconv.ParseUint10
import Derived.Shelf.Strconv.ParseUint10Empty
import Derived.Shelf.Strconv.ParseUint10Any
import Derived.Shelf.Strconv.ParseInt10
import Derived.Shelf.Strconv.AtoiLong
import Derived.Shelf.Strconv.AtoiInnerAll
import Derived.Shelf.Strconv.RangeError
import Derived.Shelf.Strconv.ToErrorRange
import Derived.Shelf.Strconv.AtoiAll
import Derived.Shelf.Strconv.ErrVarAll
import Derived.Shelf.Strconv.ParseUintEmpty
import Derived.Shelf.Strconv.ParseUint10b64
import Derived.Shelf.Strconv.ParseUint10b32
import Derived.Shelf.Strconv.ParseUint10b16
import Derived.Shelf.Strconv.ParseUint10b8
import Derived.Shelf.Strconv.ParseUint10At
import Derived.Shelf.Strconv.ParseInt10At64
import Derived.Shelf.Strconv.ParseInt10At32
import Derived.Shelf.Strconv.ParseInt10At16
import Derived.Shelf.Strconv.ParseInt10At8
import Derived.Shelf.Strconv.ParseInt10All
import Derived.Shelf.Bin.ReadersZ
import Derived.Shelf.Bytes.SlIndexAt
import Derived.Shelf.Bytes.SlSearch0
import Derived.Shelf.Bytes.IndexByte
import Derived.Test.YtcjgneomcnholaaDoorProg
namespace Go.Proofs
open Go.Shelf
def Tryd.lays244_ren : Go.Shelf.Ren := ⟨fun | 244 => 109 | 247 => 115 | 287 => 121 | 321 => 124 | 322 => 125 | n => n, fun | 9 => 9 | 3 => 3 | 75 => 74 | 4 => 4 | 5 => 5 | 167 => 162 | 37 => 77 | 0 => 0 | 85 => 163 | 2 => 2 | 53 => 64 | 175 => 169 | 46 => 161 | 21 => 21 | 80 => 187 | n => n, fun | n => n⟩
theorem Tryd.lays244 : Go.Proofs.Lays.n244 Tryd.prog Tryd.lays244_ren := {
  mixed := by kernel_rfl
  f244 := Tryd.func109.trans (congrArg some (by kernel_rfl))
  f247 := Tryd.func115.trans (congrArg some (by kernel_rfl))
  f287 := Tryd.func121.trans (congrArg some (by kernel_rfl))
  f321 := Tryd.func124.trans (congrArg some (by kernel_rfl))
  f322 := Tryd.func125.trans (congrArg some (by kernel_rfl))
  t0 := Tryd.underlying0
  a0 := Tryd.isAgg0
  z0 := Tryd.sizeOf0
  v0 := Tryd.zeroValue0
  t2 := Tryd.underlying2
  a2 := Tryd.isAgg2
  z2 := Tryd.sizeOf2
  v2 := Tryd.zeroValue2
  t3 := Tryd.underlying3
  a3 := Tryd.isAgg3
  z3 := Tryd.sizeOf3
  v3 := Tryd.zeroValue3
  t4 := Tryd.underlying4
  a4 := Tryd.isAgg4
  z4 := Tryd.sizeOf4
  v4 := Tryd.zeroValue4
  t5 := Tryd.underlying5
  a5 := Tryd.isAgg5
  z5 := Tryd.sizeOf5
  v5 := Tryd.zeroValue5
  t9 := Tryd.underlying9
  a9 := Tryd.isAgg9
  z9 := Tryd.sizeOf9
  v9 := Tryd.zeroValue9
  t21 := Tryd.underlying21
  a21 := Tryd.isAgg21
  z21 := Tryd.sizeOf21
  v21 := Tryd.zeroValue21
  t37 := Tryd.underlying77
  a37 := Tryd.isAgg77
  z37 := Tryd.sizeOf77
  v37 := Tryd.zeroValue77
  t46 := Tryd.underlying161
  a46 := Tryd.isAgg161
  z46 := Tryd.sizeOf161
  v46 := Tryd.zeroValue161
  t53 := Tryd.underlying64
  a53 := Tryd.isAgg64
  z53 := Tryd.sizeOf64
  v53 := Tryd.zeroValue64
  t75 := Tryd.underlying74
  a75 := Tryd.isAgg74
  z75 := Tryd.sizeOf74
  v75 := Tryd.zeroValue74
  t85 := Tryd.underlying163
  a85 := Tryd.isAgg163
  z85 := Tryd.sizeOf163
  v85 := Tryd.zeroValue163
  t167 := Tryd.underlying162
  a167 := Tryd.isAgg162
  z167 := Tryd.sizeOf162
  v167 := Tryd.zeroValue162
  t175 := Tryd.underlying169
  a175 := Tryd.isAgg169
  z175 := Tryd.sizeOf169
  v175 := Tryd.zeroValue169 }
open Go.RowKit in
/-- internal/strconv.Atoi, at a decimal numeral of at most 18 bytes: ITS VALUE, AND NO ERROR. The world behind the call: the one new row that '[]byte(s)' lays. (LAID: no walk: one application.) -/
theorem Tryd.internal_strconv_Atoi (s : ByteArray) (n : Int) (hl : s.size ≤ 18) (h : Lib.atoi s.data.toList = some n) (w : World) :
    Calls Tryd.prog 109 #[.string s] w fun e w' => e = .returned (.tuple #[.int .i64 n, .nilIface]) ∧ ∃ t, w' = Lib.bytesWorld w 5 t := Any.internal_strconv_Atoi Tryd.lays244 s n hl h w
def Tryd.lays172_ren : Go.Shelf.Ren := ⟨fun | 172 => 100 | 244 => 109 | 245 => 110 | 247 => 115 | 279 => 116 | 280 => 117 | 281 => 118 | 282 => 119 | 287 => 121 | 316 => 122 | 171 => 123 | 205 => 75 | 321 => 124 | 322 => 125 | 243 => 126 | 246 => 127 | 283 => 128 | 284 => 129 | 285 => 130 | 286 => 131 | 129 => 133 | 317 => 132 | 318 => 134 | 319 => 135 | 320 => 136 | 337 => 137 | 338 => 138 | n => n, fun | 9 => 9 | 3 => 3 | 75 => 74 | 76 => 75 | 4 => 4 | 5 => 5 | 167 => 162 | 37 => 77 | 0 => 0 | 85 => 163 | 2 => 2 | 168 => 165 | 53 => 64 | 175 => 169 | 46 => 161 | 210 => 172 | 127 => 174 | 145 => 134 | 143 => 132 | 21 => 21 | 171 => 176 | 173 => 179 | 212 => 182 | 51 => 160 | 20 => 20 | 213 => 183 | 232 => 186 | 233 => 122 | 80 => 187 | n => n, fun | 15 => 14 | 16 => 15 | 17 => 16 | 18 => 17 | 19 => 18 | n => n⟩
theorem Tryd.lays172 : Go.Proofs.Lays.n172 Tryd.prog Tryd.lays172_ren := {
  mixed := by kernel_rfl
  f129 := Tryd.func133.trans (congrArg some (by kernel_rfl))
  f171 := Tryd.func123.trans (congrArg some (by kernel_rfl))
  f172 := Tryd.func100.trans (congrArg some (by kernel_rfl))
  f205 := Tryd.func75.trans (congrArg some (by kernel_rfl))
  f243 := Tryd.func126.trans (congrArg some (by kernel_rfl))
  f244 := Tryd.func109.trans (congrArg some (by kernel_rfl))
  f245 := Tryd.func110.trans (congrArg some (by kernel_rfl))
  f246 := Tryd.func127.trans (congrArg some (by kernel_rfl))
  f247 := Tryd.func115.trans (congrArg some (by kernel_rfl))
  f279 := Tryd.func116.trans (congrArg some (by kernel_rfl))
  f280 := Tryd.func117.trans (congrArg some (by kernel_rfl))
  f281 := Tryd.func118.trans (congrArg some (by kernel_rfl))
  f282 := Tryd.func119.trans (congrArg some (by kernel_rfl))
  f283 := Tryd.func128.trans (congrArg some (by kernel_rfl))
  f284 := Tryd.func129.trans (congrArg some (by kernel_rfl))
  f285 := Tryd.func130.trans (congrArg some (by kernel_rfl))
  f286 := Tryd.func131.trans (congrArg some (by kernel_rfl))
  f287 := Tryd.func121.trans (congrArg some (by kernel_rfl))
  f316 := Tryd.func122.trans (congrArg some (by kernel_rfl))
  f317 := Tryd.func132.trans (congrArg some (by kernel_rfl))
  f318 := Tryd.func134.trans (congrArg some (by kernel_rfl))
  f319 := Tryd.func135.trans (congrArg some (by kernel_rfl))
  f320 := Tryd.func136.trans (congrArg some (by kernel_rfl))
  f321 := Tryd.func124.trans (congrArg some (by kernel_rfl))
  f322 := Tryd.func125.trans (congrArg some (by kernel_rfl))
  f337 := Tryd.func137.trans (congrArg some (by kernel_rfl))
  f338 := Tryd.func138.trans (congrArg some (by kernel_rfl))
  t0 := Tryd.underlying0
  a0 := Tryd.isAgg0
  z0 := Tryd.sizeOf0
  v0 := Tryd.zeroValue0
  t2 := Tryd.underlying2
  a2 := Tryd.isAgg2
  z2 := Tryd.sizeOf2
  v2 := Tryd.zeroValue2
  t3 := Tryd.underlying3
  a3 := Tryd.isAgg3
  z3 := Tryd.sizeOf3
  v3 := Tryd.zeroValue3
  t4 := Tryd.underlying4
  a4 := Tryd.isAgg4
  z4 := Tryd.sizeOf4
  v4 := Tryd.zeroValue4
  t5 := Tryd.underlying5
  a5 := Tryd.isAgg5
  z5 := Tryd.sizeOf5
  v5 := Tryd.zeroValue5
  t9 := Tryd.underlying9
  a9 := Tryd.isAgg9
  z9 := Tryd.sizeOf9
  v9 := Tryd.zeroValue9
  t20 := Tryd.underlying20
  a20 := Tryd.isAgg20
  z20 := Tryd.sizeOf20
  v20 := Tryd.zeroValue20
  t21 := Tryd.underlying21
  a21 := Tryd.isAgg21
  z21 := Tryd.sizeOf21
  v21 := Tryd.zeroValue21
  t37 := Tryd.underlying77
  a37 := Tryd.isAgg77
  z37 := Tryd.sizeOf77
  v37 := Tryd.zeroValue77
  t46 := Tryd.underlying161
  a46 := Tryd.isAgg161
  z46 := Tryd.sizeOf161
  v46 := Tryd.zeroValue161
  t51 := Tryd.underlying160
  a51 := Tryd.isAgg160
  z51 := Tryd.sizeOf160
  v51 := Tryd.zeroValue160
  t53 := Tryd.underlying64
  a53 := Tryd.isAgg64
  z53 := Tryd.sizeOf64
  v53 := Tryd.zeroValue64
  t75 := Tryd.underlying74
  a75 := Tryd.isAgg74
  z75 := Tryd.sizeOf74
  v75 := Tryd.zeroValue74
  t76 := Tryd.underlying75
  a76 := Tryd.isAgg75
  z76 := Tryd.sizeOf75
  v76 := Tryd.zeroValue75
  t85 := Tryd.underlying163
  a85 := Tryd.isAgg163
  z85 := Tryd.sizeOf163
  v85 := Tryd.zeroValue163
  t127 := Tryd.underlying174
  a127 := Tryd.isAgg174
  z127 := Tryd.sizeOf174
  v127 := Tryd.zeroValue174
  t143 := Tryd.underlying132
  a143 := Tryd.isAgg132
  z143 := Tryd.sizeOf132
  v143 := Tryd.zeroValue132
  t145 := Tryd.underlying134
  a145 := Tryd.isAgg134
  z145 := Tryd.sizeOf134
  v145 := Tryd.zeroValue134
  t167 := Tryd.underlying162
  a167 := Tryd.isAgg162
  z167 := Tryd.sizeOf162
  v167 := Tryd.zeroValue162
  t168 := Tryd.underlying165
  a168 := Tryd.isAgg165
  z168 := Tryd.sizeOf165
  v168 := Tryd.zeroValue165
  t171 := Tryd.underlying176
  a171 := Tryd.isAgg176
  z171 := Tryd.sizeOf176
  v171 := Tryd.zeroValue176
  t173 := Tryd.underlying179
  a173 := Tryd.isAgg179
  z173 := Tryd.sizeOf179
  v173 := Tryd.zeroValue179
  t175 := Tryd.underlying169
  a175 := Tryd.isAgg169
  z175 := Tryd.sizeOf169
  v175 := Tryd.zeroValue169
  t210 := Tryd.underlying172
  a210 := Tryd.isAgg172
  z210 := Tryd.sizeOf172
  v210 := Tryd.zeroValue172
  t212 := Tryd.underlying182
  a212 := Tryd.isAgg182
  z212 := Tryd.sizeOf182
  v212 := Tryd.zeroValue182
  t213 := Tryd.underlying183
  a213 := Tryd.isAgg183
  z213 := Tryd.sizeOf183
  t232 := Tryd.underlying186
  a232 := Tryd.isAgg186
  z232 := Tryd.sizeOf186
  v232 := Tryd.zeroValue186
  t233 := Tryd.underlying122
  a233 := Tryd.isAgg122
  z233 := Tryd.sizeOf122
  v233 := Tryd.zeroValue122
  g15 := by kernel_rfl
  g16 := by kernel_rfl
  g17 := by kernel_rfl
  g18 := by kernel_rfl
  g19 := by kernel_rfl }
open Go.RowKit in
/-- strconv.Atoi: "Atoi is equivalent to ParseInt(s, 10, 0), converted to type int.": AT A DECIMAL NUMERAL OF AT MOST 18 BYTES: its value, and a nil error. The world behind the call: the one new row that the library's '[]byte(s)' lays. (LAID: no walk: one application.) -/
theorem Tryd.strconv_Atoi (s : ByteArray) (n : Int) (hl : s.size ≤ 18) (h : Lib.atoi s.data.toList = some n) (w : World) :
    Calls Tryd.prog 100 #[.string s] w fun e w' => e = .returned (.tuple #[.int .i64 n, .nilIface]) ∧ ∃ t, w' = Lib.bytesWorld w 5 t := Any.strconv_Atoi Tryd.lays172 s n hl h w
def Tryd.lays129_ren : Go.Shelf.Ren := ⟨fun | 129 => 133 | n => n, fun | 53 => 64 | 3 => 3 | 4 => 4 | 46 => 161 | 5 => 5 | 9 => 9 | n => n, fun | n => n⟩
theorem Tryd.lays129 : Go.Proofs.Lays.n129 Tryd.prog Tryd.lays129_ren := {
  mixed := by kernel_rfl
  f129 := Tryd.func133.trans (congrArg some (by kernel_rfl))
  t3 := Tryd.underlying3
  a3 := Tryd.isAgg3
  z3 := Tryd.sizeOf3
  v3 := Tryd.zeroValue3
  t4 := Tryd.underlying4
  a4 := Tryd.isAgg4
  z4 := Tryd.sizeOf4
  v4 := Tryd.zeroValue4
  t5 := Tryd.underlying5
  a5 := Tryd.isAgg5
  z5 := Tryd.sizeOf5
  v5 := Tryd.zeroValue5
  t9 := Tryd.underlying9
  a9 := Tryd.isAgg9
  z9 := Tryd.sizeOf9
  v9 := Tryd.zeroValue9
  t46 := Tryd.underlying161
  a46 := Tryd.isAgg161
  z46 := Tryd.sizeOf161
  v46 := Tryd.zeroValue161
  t53 := Tryd.underlying64
  a53 := Tryd.isAgg64
  z53 := Tryd.sizeOf64
  v53 := Tryd.zeroValue64 }
/-- bits.Len64: "Len64 returns the minimum number of bits required to represent x; the result is 0 for x == 0.": IT RETURNS 'Lib.bitLen x'; the world is as it was. ('h0', 'h1': x is a uint64.) (LAID: no walk: one application.) -/
theorem Tryd.bits_Len64 (x : Int) (w : World) (h0 : 0 ≤ x) (h1 : x ≤ 18446744073709551615) :
    Calls Tryd.prog 133 #[.int .u64 x] w fun e w' => e = .returned (.int .i64 (Lib.bitLen x.toNat)) ∧ w' = w := Any.bits_Len64 Tryd.lays129 x w h0 h1
def Tryd.lays317_ren : Go.Shelf.Ren := ⟨fun | 317 => 132 | n => n, fun | 3 => 3 | 46 => 161 | n => n, fun | n => n⟩
theorem Tryd.lays317 : Go.Proofs.Lays.n317 Tryd.prog Tryd.lays317_ren := {
  mixed := by kernel_rfl
  f317 := Tryd.func132.trans (congrArg some (by kernel_rfl))
  t3 := Tryd.underlying3
  a3 := Tryd.isAgg3
  z3 := Tryd.sizeOf3
  v3 := Tryd.zeroValue3
  t46 := Tryd.underlying161
  a46 := Tryd.isAgg161
  z46 := Tryd.sizeOf161
  v46 := Tryd.zeroValue161 }
open Go.Lib in
/-- internal/strconv.log10Pow2: "log10Pow2(x) returns ⌊log₁₀ 2**x⌋ = ⌊x * log₁₀ 2⌋.": '(x * 78913) >> 18', at an x up to 64 (a length in bits). The world is as it was. (LAID: no walk: one application.) -/
theorem Tryd.internal_strconv_log10Pow2 (x : Nat) (h : x ≤ 64) (w : World) :
    Calls Tryd.prog 132 #[.int .i64 x] w fun e w' => e = .returned (.int .i64 (Lib.l10 x)) ∧ w' = w := Any.internal_strconv_log10Pow2 Tryd.lays317 x h w
def Tryd.lays318_ren : Go.Shelf.Ren := ⟨fun | 318 => 134 | n => n, fun | 3 => 3 | 4 => 4 | n => n, fun | n => n⟩
theorem Tryd.lays318 : Go.Proofs.Lays.n318 Tryd.prog Tryd.lays318_ren := {
  mixed := by kernel_rfl
  f318 := Tryd.func134.trans (congrArg some (by kernel_rfl))
  t3 := Tryd.underlying3
  a3 := Tryd.isAgg3
  z3 := Tryd.sizeOf3
  v3 := Tryd.zeroValue3
  t4 := Tryd.underlying4
  a4 := Tryd.isAgg4
  z4 := Tryd.sizeOf4
  v4 := Tryd.zeroValue4 }
open Go.Lib in
/-- internal/strconv.bool2: "bool2 converts b to an integer: 1 for true, 0 for false." The world is as it was. (LAID: no walk: one application.) -/
theorem Tryd.internal_strconv_bool2_int (b : Bool) (w : World) :
    Calls Tryd.prog 134 #[.bool b] w fun e w' => e = .returned (.int .i64 (if b then 1 else 0)) ∧ w' = w := Any.internal_strconv_bool2_int Tryd.lays318 b w
def Tryd.lays283_ren : Go.Shelf.Ren := ⟨fun | 283 => 128 | n => n, fun | 3 => 3 | 9 => 9 | 4 => 4 | n => n, fun | n => n⟩
theorem Tryd.lays283 : Go.Proofs.Lays.n283 Tryd.prog Tryd.lays283_ren := {
  mixed := by kernel_rfl
  f283 := Tryd.func128.trans (congrArg some (by kernel_rfl))
  t3 := Tryd.underlying3
  a3 := Tryd.isAgg3
  z3 := Tryd.sizeOf3
  v3 := Tryd.zeroValue3
  t4 := Tryd.underlying4
  a4 := Tryd.isAgg4
  z4 := Tryd.sizeOf4
  v4 := Tryd.zeroValue4
  t9 := Tryd.underlying9
  a9 := Tryd.isAgg9
  z9 := Tryd.sizeOf9
  v9 := Tryd.zeroValue9 }
open Go.Lib in
/-- internal/strconv.small: "small returns the string for an i with 0 <= i < nSmalls.": i's decimal numeral. The world is as it was. (LAID: no walk: one application.) -/
theorem Tryd.internal_strconv_small (i : Nat) (h : i < 100) (w : World) :
    Calls Tryd.prog 128 #[.int .i64 i] w fun e w' => e = .returned (.string ⟨(Lib.decDigits i).toArray⟩) ∧ w' = w := Any.internal_strconv_small Tryd.lays283 i h w
def Tryd.laysM284_ren : Go.Shelf.Ren := ⟨fun | 284 => 129 | 129 => 133 | 317 => 132 | 318 => 134 | n => n, fun | 53 => 64 | 3 => 3 | 212 => 182 | 0 => 0 | 4 => 4 | 46 => 161 | 5 => 5 | 9 => 9 | n => n, fun | 17 => 16 | n => n⟩
theorem Tryd.laysM284 : Go.Proofs.LaysM.n284 Tryd.prog Tryd.laysM284_ren := {
  mixed := by kernel_rfl
  f129 := Tryd.func133.trans (congrArg some (by kernel_rfl))
  f284 := Tryd.func129.trans (congrArg some (by kernel_rfl))
  f317 := Tryd.func132.trans (congrArg some (by kernel_rfl))
  f318 := Tryd.func134.trans (congrArg some (by kernel_rfl))
  t0 := Tryd.underlying0
  a0 := Tryd.isAgg0
  z0 := Tryd.sizeOf0
  v0 := Tryd.zeroValue0
  t3 := Tryd.underlying3
  a3 := Tryd.isAgg3
  z3 := Tryd.sizeOf3
  v3 := Tryd.zeroValue3
  t4 := Tryd.underlying4
  a4 := Tryd.isAgg4
  z4 := Tryd.sizeOf4
  v4 := Tryd.zeroValue4
  t5 := Tryd.underlying5
  a5 := Tryd.isAgg5
  z5 := Tryd.sizeOf5
  v5 := Tryd.zeroValue5
  t9 := Tryd.underlying9
  a9 := Tryd.isAgg9
  z9 := Tryd.sizeOf9
  v9 := Tryd.zeroValue9
  t46 := Tryd.underlying161
  a46 := Tryd.isAgg161
  z46 := Tryd.sizeOf161
  v46 := Tryd.zeroValue161
  t53 := Tryd.underlying64
  a53 := Tryd.isAgg64
  z53 := Tryd.sizeOf64
  v53 := Tryd.zeroValue64
  t212 := Tryd.underlying182
  a212 := Tryd.isAgg182
  z212 := Tryd.sizeOf182
  v212 := Tryd.zeroValue182
  g17 := by kernel_rfl
  i0 := by kernel_rfl
  i3 := by kernel_rfl
  i4 := by kernel_rfl
  i5 := by kernel_rfl
  i9 := by kernel_rfl
  i46 := by kernel_rfl
  i53 := by kernel_rfl
  i212 := by kernel_rfl
  m17 := by kernel_rfl }
open Go.Lib in
/-- internal/strconv.numDigits, at a d that is not 0: THE NUMBER OF d's DECIMAL DIGITS. The world is as it was. (LAID: no walk: one application.) -/
theorem Tryd.internal_strconv_numDigits (u : Nat) (h1 : 1 ≤ u) (h2 : u < 18446744073709551616) (w : World) (htab : Lib.TabIs Tryd.prog w "internal/strconv.uint64pow10" .u64 Lib.pow10Tab) :
    Calls Tryd.prog 129 #[.int .u64 u] w fun e w' => e = .returned (.int .i64 (Lib.nDigits u)) ∧ w' = w := Any.internal_strconv_numDigits Tryd.laysM284 u h1 h2 w htab
def Tryd.lays285_ren : Go.Shelf.Ren := ⟨fun | 285 => 130 | n => n, fun | 37 => 77 | 53 => 64 | 3 => 3 | 4 => 4 | 51 => 160 | 9 => 9 | 5 => 5 | 0 => 0 | n => n, fun | n => n⟩
theorem Tryd.lays285 : Go.Proofs.Lays.n285 Tryd.prog Tryd.lays285_ren := {
  mixed := by kernel_rfl
  f285 := Tryd.func130.trans (congrArg some (by kernel_rfl))
  t0 := Tryd.underlying0
  a0 := Tryd.isAgg0
  z0 := Tryd.sizeOf0
  v0 := Tryd.zeroValue0
  t3 := Tryd.underlying3
  a3 := Tryd.isAgg3
  z3 := Tryd.sizeOf3
  v3 := Tryd.zeroValue3
  t4 := Tryd.underlying4
  a4 := Tryd.isAgg4
  z4 := Tryd.sizeOf4
  v4 := Tryd.zeroValue4
  t5 := Tryd.underlying5
  a5 := Tryd.isAgg5
  z5 := Tryd.sizeOf5
  v5 := Tryd.zeroValue5
  t9 := Tryd.underlying9
  a9 := Tryd.isAgg9
  z9 := Tryd.sizeOf9
  v9 := Tryd.zeroValue9
  t37 := Tryd.underlying77
  a37 := Tryd.isAgg77
  z37 := Tryd.sizeOf77
  v37 := Tryd.zeroValue77
  t51 := Tryd.underlying160
  a51 := Tryd.isAgg160
  z51 := Tryd.sizeOf160
  v51 := Tryd.zeroValue160
  t53 := Tryd.underlying64
  a53 := Tryd.isAgg64
  z53 := Tryd.sizeOf64
  v53 := Tryd.zeroValue64 }
open Go.RowKit Go.Sort Go.Lib in
/-- internal/strconv.formatBase10: "formatBase10 formats the decimal representation of u into a. The caller is responsible for ensuring that a is big enough to hold u. If a is too big, leading zeros will be filled in as needed.": THE ROW HOLDS u's DIGITS ('FmtInv .. 0 ..': every place t holds 'dg u (len - 1 - t)'); all else is as it was but for the count of draws. (LAID: no walk: one application.) -/
theorem Tryd.internal_strconv_formatBase10 (blk off cap : Nat) (u : Nat) (d : Array UInt8) (w : World) (hH : Holds (fun (b : UInt8) => Value.int .u8 (b.toNat : Int)) w blk off d) (hu : u < 10 ^ d.size) (hu64 : u < 18446744073709551616) (hsz : d.size < 4611686018427387904) :
    Calls Tryd.prog 130 #[.slice (some ⟨blk, off, none⟩) d.size cap, .int .u64 u] w fun e w' =>
      e = .returned (.tuple #[]) ∧ ∃ (n v' : Nat) (dk : Array UInt8), w' = (putRow (fun (b : UInt8) => Value.int .u8 (b.toNat : Int)) w blk off dk).drewN n ∧ FmtInv d.size u 0 v' dk := Any.internal_strconv_formatBase10 Tryd.lays285 blk off cap u d w hH hu hu64 hsz
def Tryd.laysM246_ren : Go.Shelf.Ren := ⟨fun | 246 => 127 | 283 => 128 | 284 => 129 | 285 => 130 | 286 => 131 | 129 => 133 | 317 => 132 | 318 => 134 | 319 => 135 | 320 => 136 | 337 => 137 | 338 => 138 | n => n, fun | 2 => 2 | 3 => 3 | 9 => 9 | 4 => 4 | 171 => 176 | 0 => 0 | 53 => 64 | 37 => 77 | 5 => 5 | 173 => 179 | 212 => 182 | 51 => 160 | 20 => 20 | 213 => 183 | 46 => 161 | 232 => 186 | 233 => 122 | n => n, fun | 17 => 16 | 18 => 17 | 19 => 18 | n => n⟩
theorem Tryd.laysM246 : Go.Proofs.LaysM.n246 Tryd.prog Tryd.laysM246_ren := {
  mixed := by kernel_rfl
  f129 := Tryd.func133.trans (congrArg some (by kernel_rfl))
  f246 := Tryd.func127.trans (congrArg some (by kernel_rfl))
  f283 := Tryd.func128.trans (congrArg some (by kernel_rfl))
  f284 := Tryd.func129.trans (congrArg some (by kernel_rfl))
  f285 := Tryd.func130.trans (congrArg some (by kernel_rfl))
  f286 := Tryd.func131.trans (congrArg some (by kernel_rfl))
  f317 := Tryd.func132.trans (congrArg some (by kernel_rfl))
  f318 := Tryd.func134.trans (congrArg some (by kernel_rfl))
  f319 := Tryd.func135.trans (congrArg some (by kernel_rfl))
  f320 := Tryd.func136.trans (congrArg some (by kernel_rfl))
  f337 := Tryd.func137.trans (congrArg some (by kernel_rfl))
  f338 := Tryd.func138.trans (congrArg some (by kernel_rfl))
  t0 := Tryd.underlying0
  a0 := Tryd.isAgg0
  z0 := Tryd.sizeOf0
  v0 := Tryd.zeroValue0
  t2 := Tryd.underlying2
  a2 := Tryd.isAgg2
  z2 := Tryd.sizeOf2
  v2 := Tryd.zeroValue2
  t3 := Tryd.underlying3
  a3 := Tryd.isAgg3
  z3 := Tryd.sizeOf3
  v3 := Tryd.zeroValue3
  t4 := Tryd.underlying4
  a4 := Tryd.isAgg4
  z4 := Tryd.sizeOf4
  v4 := Tryd.zeroValue4
  t5 := Tryd.underlying5
  a5 := Tryd.isAgg5
  z5 := Tryd.sizeOf5
  v5 := Tryd.zeroValue5
  t9 := Tryd.underlying9
  a9 := Tryd.isAgg9
  z9 := Tryd.sizeOf9
  v9 := Tryd.zeroValue9
  t20 := Tryd.underlying20
  a20 := Tryd.isAgg20
  z20 := Tryd.sizeOf20
  v20 := Tryd.zeroValue20
  t37 := Tryd.underlying77
  a37 := Tryd.isAgg77
  z37 := Tryd.sizeOf77
  v37 := Tryd.zeroValue77
  t46 := Tryd.underlying161
  a46 := Tryd.isAgg161
  z46 := Tryd.sizeOf161
  v46 := Tryd.zeroValue161
  t51 := Tryd.underlying160
  a51 := Tryd.isAgg160
  z51 := Tryd.sizeOf160
  v51 := Tryd.zeroValue160
  t53 := Tryd.underlying64
  a53 := Tryd.isAgg64
  z53 := Tryd.sizeOf64
  v53 := Tryd.zeroValue64
  t171 := Tryd.underlying176
  a171 := Tryd.isAgg176
  z171 := Tryd.sizeOf176
  v171 := Tryd.zeroValue176
  t173 := Tryd.underlying179
  a173 := Tryd.isAgg179
  z173 := Tryd.sizeOf179
  v173 := Tryd.zeroValue179
  t212 := Tryd.underlying182
  a212 := Tryd.isAgg182
  z212 := Tryd.sizeOf182
  v212 := Tryd.zeroValue182
  t213 := Tryd.underlying183
  a213 := Tryd.isAgg183
  z213 := Tryd.sizeOf183
  t232 := Tryd.underlying186
  a232 := Tryd.isAgg186
  z232 := Tryd.sizeOf186
  v232 := Tryd.zeroValue186
  t233 := Tryd.underlying122
  a233 := Tryd.isAgg122
  z233 := Tryd.sizeOf122
  v233 := Tryd.zeroValue122
  g17 := by kernel_rfl
  g18 := by kernel_rfl
  g19 := by kernel_rfl
  i0 := by kernel_rfl
  i2 := by kernel_rfl
  i3 := by kernel_rfl
  i4 := by kernel_rfl
  i5 := by kernel_rfl
  i9 := by kernel_rfl
  i20 := by kernel_rfl
  i37 := by kernel_rfl
  i46 := by kernel_rfl
  i51 := by kernel_rfl
  i53 := by kernel_rfl
  i171 := by kernel_rfl
  i173 := by kernel_rfl
  i212 := by kernel_rfl
  i232 := by kernel_rfl
  i233 := by kernel_rfl
  m17 := by kernel_rfl
  m18 := by kernel_rfl
  m19 := by kernel_rfl }
open Go.RowKit Go.Sort Go.Lib in
/-- internal/strconv.FormatInt: "FormatInt returns the string representation of i in the given base": AT BASE 10: i's decimal numeral, for every int64. The world behind the call: the world before it, new blocks behind the heap, draws. (LAID: no walk: one application.) -/
theorem Tryd.internal_strconv_FormatInt_10 (n : Int) (h0 : -9223372036854775808 ≤ n) (h1 : n ≤ 9223372036854775807) (w : World) (htab : Lib.TabIs Tryd.prog w "internal/strconv.uint64pow10" .u64 Lib.pow10Tab) :
    Calls Tryd.prog 127 #[.int .i64 n, .int .i64 10] w fun e w' => e = .returned (.string ⟨(Lib.itoa n).toArray⟩) ∧ ∃ k os, w' = grow (w.drewN k) os := Any.internal_strconv_FormatInt_10 Tryd.laysM246 n h0 h1 w htab
def Tryd.lays246_ren : Go.Shelf.Ren := ⟨fun | 246 => 127 | 283 => 128 | 284 => 129 | 285 => 130 | 286 => 131 | 129 => 133 | 317 => 132 | 318 => 134 | 319 => 135 | 320 => 136 | 337 => 137 | 338 => 138 | n => n, fun | 2 => 2 | 3 => 3 | 9 => 9 | 4 => 4 | 171 => 176 | 0 => 0 | 53 => 64 | 37 => 77 | 5 => 5 | 173 => 179 | 212 => 182 | 51 => 160 | 20 => 20 | 213 => 183 | 46 => 161 | 232 => 186 | 233 => 122 | n => n, fun | 17 => 16 | 18 => 17 | 19 => 18 | n => n⟩
theorem Tryd.lays246 : Go.Proofs.Lays.n246 Tryd.prog Tryd.lays246_ren := {
  mixed := by kernel_rfl
  f129 := Tryd.func133.trans (congrArg some (by kernel_rfl))
  f246 := Tryd.func127.trans (congrArg some (by kernel_rfl))
  f283 := Tryd.func128.trans (congrArg some (by kernel_rfl))
  f284 := Tryd.func129.trans (congrArg some (by kernel_rfl))
  f285 := Tryd.func130.trans (congrArg some (by kernel_rfl))
  f286 := Tryd.func131.trans (congrArg some (by kernel_rfl))
  f317 := Tryd.func132.trans (congrArg some (by kernel_rfl))
  f318 := Tryd.func134.trans (congrArg some (by kernel_rfl))
  f319 := Tryd.func135.trans (congrArg some (by kernel_rfl))
  f320 := Tryd.func136.trans (congrArg some (by kernel_rfl))
  f337 := Tryd.func137.trans (congrArg some (by kernel_rfl))
  f338 := Tryd.func138.trans (congrArg some (by kernel_rfl))
  t0 := Tryd.underlying0
  a0 := Tryd.isAgg0
  z0 := Tryd.sizeOf0
  v0 := Tryd.zeroValue0
  t2 := Tryd.underlying2
  a2 := Tryd.isAgg2
  z2 := Tryd.sizeOf2
  v2 := Tryd.zeroValue2
  t3 := Tryd.underlying3
  a3 := Tryd.isAgg3
  z3 := Tryd.sizeOf3
  v3 := Tryd.zeroValue3
  t4 := Tryd.underlying4
  a4 := Tryd.isAgg4
  z4 := Tryd.sizeOf4
  v4 := Tryd.zeroValue4
  t5 := Tryd.underlying5
  a5 := Tryd.isAgg5
  z5 := Tryd.sizeOf5
  v5 := Tryd.zeroValue5
  t9 := Tryd.underlying9
  a9 := Tryd.isAgg9
  z9 := Tryd.sizeOf9
  v9 := Tryd.zeroValue9
  t20 := Tryd.underlying20
  a20 := Tryd.isAgg20
  z20 := Tryd.sizeOf20
  v20 := Tryd.zeroValue20
  t37 := Tryd.underlying77
  a37 := Tryd.isAgg77
  z37 := Tryd.sizeOf77
  v37 := Tryd.zeroValue77
  t46 := Tryd.underlying161
  a46 := Tryd.isAgg161
  z46 := Tryd.sizeOf161
  v46 := Tryd.zeroValue161
  t51 := Tryd.underlying160
  a51 := Tryd.isAgg160
  z51 := Tryd.sizeOf160
  v51 := Tryd.zeroValue160
  t53 := Tryd.underlying64
  a53 := Tryd.isAgg64
  z53 := Tryd.sizeOf64
  v53 := Tryd.zeroValue64
  t171 := Tryd.underlying176
  a171 := Tryd.isAgg176
  z171 := Tryd.sizeOf176
  v171 := Tryd.zeroValue176
  t173 := Tryd.underlying179
  a173 := Tryd.isAgg179
  z173 := Tryd.sizeOf179
  v173 := Tryd.zeroValue179
  t212 := Tryd.underlying182
  a212 := Tryd.isAgg182
  z212 := Tryd.sizeOf182
  v212 := Tryd.zeroValue182
  t213 := Tryd.underlying183
  a213 := Tryd.isAgg183
  z213 := Tryd.sizeOf183
  t232 := Tryd.underlying186
  a232 := Tryd.isAgg186
  z232 := Tryd.sizeOf186
  v232 := Tryd.zeroValue186
  t233 := Tryd.underlying122
  a233 := Tryd.isAgg122
  z233 := Tryd.sizeOf122
  v233 := Tryd.zeroValue122
  g17 := by kernel_rfl
  g18 := by kernel_rfl
  g19 := by kernel_rfl }
open Go.RowKit Go.Sort Go.Lib in
/-- THE ROAD WITHOUT THE TABLE: 0 <= i < 100: two constants are read, nothing is laid: no premise on the world, and the world is as it was. (LAID: no walk: one application.) -/
theorem Tryd.internal_strconv_FormatInt_10_small (i : Nat) (hi : i < 100) (w : World) :
    Calls Tryd.prog 127 #[.int .i64 i, .int .i64 10] w fun e w' => e = .returned (.string ⟨(Lib.decDigits i).toArray⟩) ∧ w' = w := Any.internal_strconv_FormatInt_10_small Tryd.lays246 i hi w
def Tryd.laysM243_ren : Go.Shelf.Ren := ⟨fun | 243 => 126 | 246 => 127 | 283 => 128 | 284 => 129 | 285 => 130 | 286 => 131 | 129 => 133 | 317 => 132 | 318 => 134 | 319 => 135 | 320 => 136 | 337 => 137 | 338 => 138 | n => n, fun | 3 => 3 | 9 => 9 | 2 => 2 | 4 => 4 | 171 => 176 | 0 => 0 | 53 => 64 | 37 => 77 | 5 => 5 | 173 => 179 | 212 => 182 | 51 => 160 | 20 => 20 | 213 => 183 | 46 => 161 | 232 => 186 | 233 => 122 | n => n, fun | 17 => 16 | 18 => 17 | 19 => 18 | n => n⟩
theorem Tryd.laysM243 : Go.Proofs.LaysM.n243 Tryd.prog Tryd.laysM243_ren := {
  mixed := by kernel_rfl
  f129 := Tryd.func133.trans (congrArg some (by kernel_rfl))
  f243 := Tryd.func126.trans (congrArg some (by kernel_rfl))
  f246 := Tryd.func127.trans (congrArg some (by kernel_rfl))
  f283 := Tryd.func128.trans (congrArg some (by kernel_rfl))
  f284 := Tryd.func129.trans (congrArg some (by kernel_rfl))
  f285 := Tryd.func130.trans (congrArg some (by kernel_rfl))
  f286 := Tryd.func131.trans (congrArg some (by kernel_rfl))
  f317 := Tryd.func132.trans (congrArg some (by kernel_rfl))
  f318 := Tryd.func134.trans (congrArg some (by kernel_rfl))
  f319 := Tryd.func135.trans (congrArg some (by kernel_rfl))
  f320 := Tryd.func136.trans (congrArg some (by kernel_rfl))
  f337 := Tryd.func137.trans (congrArg some (by kernel_rfl))
  f338 := Tryd.func138.trans (congrArg some (by kernel_rfl))
  t0 := Tryd.underlying0
  a0 := Tryd.isAgg0
  z0 := Tryd.sizeOf0
  v0 := Tryd.zeroValue0
  t2 := Tryd.underlying2
  a2 := Tryd.isAgg2
  z2 := Tryd.sizeOf2
  v2 := Tryd.zeroValue2
  t3 := Tryd.underlying3
  a3 := Tryd.isAgg3
  z3 := Tryd.sizeOf3
  v3 := Tryd.zeroValue3
  t4 := Tryd.underlying4
  a4 := Tryd.isAgg4
  z4 := Tryd.sizeOf4
  v4 := Tryd.zeroValue4
  t5 := Tryd.underlying5
  a5 := Tryd.isAgg5
  z5 := Tryd.sizeOf5
  v5 := Tryd.zeroValue5
  t9 := Tryd.underlying9
  a9 := Tryd.isAgg9
  z9 := Tryd.sizeOf9
  v9 := Tryd.zeroValue9
  t20 := Tryd.underlying20
  a20 := Tryd.isAgg20
  z20 := Tryd.sizeOf20
  v20 := Tryd.zeroValue20
  t37 := Tryd.underlying77
  a37 := Tryd.isAgg77
  z37 := Tryd.sizeOf77
  v37 := Tryd.zeroValue77
  t46 := Tryd.underlying161
  a46 := Tryd.isAgg161
  z46 := Tryd.sizeOf161
  v46 := Tryd.zeroValue161
  t51 := Tryd.underlying160
  a51 := Tryd.isAgg160
  z51 := Tryd.sizeOf160
  v51 := Tryd.zeroValue160
  t53 := Tryd.underlying64
  a53 := Tryd.isAgg64
  z53 := Tryd.sizeOf64
  v53 := Tryd.zeroValue64
  t171 := Tryd.underlying176
  a171 := Tryd.isAgg176
  z171 := Tryd.sizeOf176
  v171 := Tryd.zeroValue176
  t173 := Tryd.underlying179
  a173 := Tryd.isAgg179
  z173 := Tryd.sizeOf179
  v173 := Tryd.zeroValue179
  t212 := Tryd.underlying182
  a212 := Tryd.isAgg182
  z212 := Tryd.sizeOf182
  v212 := Tryd.zeroValue182
  t213 := Tryd.underlying183
  a213 := Tryd.isAgg183
  z213 := Tryd.sizeOf183
  t232 := Tryd.underlying186
  a232 := Tryd.isAgg186
  z232 := Tryd.sizeOf186
  v232 := Tryd.zeroValue186
  t233 := Tryd.underlying122
  a233 := Tryd.isAgg122
  z233 := Tryd.sizeOf122
  v233 := Tryd.zeroValue122
  g17 := by kernel_rfl
  g18 := by kernel_rfl
  g19 := by kernel_rfl
  i0 := by kernel_rfl
  i2 := by kernel_rfl
  i3 := by kernel_rfl
  i4 := by kernel_rfl
  i5 := by kernel_rfl
  i9 := by kernel_rfl
  i20 := by kernel_rfl
  i37 := by kernel_rfl
  i46 := by kernel_rfl
  i51 := by kernel_rfl
  i53 := by kernel_rfl
  i171 := by kernel_rfl
  i173 := by kernel_rfl
  i212 := by kernel_rfl
  i232 := by kernel_rfl
  i233 := by kernel_rfl
  m17 := by kernel_rfl
  m18 := by kernel_rfl
  m19 := by kernel_rfl }
open Go.RowKit Go.Sort Go.Lib in
/-- internal/strconv.Itoa: "Itoa is equivalent to FormatInt(int64(i), 10).": i's decimal numeral, for every int. (LAID: no walk: one application.) -/
theorem Tryd.internal_strconv_Itoa (n : Int) (h0 : -9223372036854775808 ≤ n) (h1 : n ≤ 9223372036854775807) (w : World) (htab : Lib.TabIs Tryd.prog w "internal/strconv.uint64pow10" .u64 Lib.pow10Tab) :
    Calls Tryd.prog 126 #[.int .i64 n] w fun e w' => e = .returned (.string ⟨(Lib.itoa n).toArray⟩) ∧ ∃ k os, w' = grow (w.drewN k) os := Any.internal_strconv_Itoa Tryd.laysM243 n h0 h1 w htab
def Tryd.lays243_ren : Go.Shelf.Ren := ⟨fun | 243 => 126 | 246 => 127 | 283 => 128 | 284 => 129 | 285 => 130 | 286 => 131 | 129 => 133 | 317 => 132 | 318 => 134 | 319 => 135 | 320 => 136 | 337 => 137 | 338 => 138 | n => n, fun | 3 => 3 | 9 => 9 | 2 => 2 | 4 => 4 | 171 => 176 | 0 => 0 | 53 => 64 | 37 => 77 | 5 => 5 | 173 => 179 | 212 => 182 | 51 => 160 | 20 => 20 | 213 => 183 | 46 => 161 | 232 => 186 | 233 => 122 | n => n, fun | 17 => 16 | 18 => 17 | 19 => 18 | n => n⟩
theorem Tryd.lays243 : Go.Proofs.Lays.n243 Tryd.prog Tryd.lays243_ren := {
  mixed := by kernel_rfl
  f129 := Tryd.func133.trans (congrArg some (by kernel_rfl))
  f243 := Tryd.func126.trans (congrArg some (by kernel_rfl))
  f246 := Tryd.func127.trans (congrArg some (by kernel_rfl))
  f283 := Tryd.func128.trans (congrArg some (by kernel_rfl))
  f284 := Tryd.func129.trans (congrArg some (by kernel_rfl))
  f285 := Tryd.func130.trans (congrArg some (by kernel_rfl))
  f286 := Tryd.func131.trans (congrArg some (by kernel_rfl))
  f317 := Tryd.func132.trans (congrArg some (by kernel_rfl))
  f318 := Tryd.func134.trans (congrArg some (by kernel_rfl))
  f319 := Tryd.func135.trans (congrArg some (by kernel_rfl))
  f320 := Tryd.func136.trans (congrArg some (by kernel_rfl))
  f337 := Tryd.func137.trans (congrArg some (by kernel_rfl))
  f338 := Tryd.func138.trans (congrArg some (by kernel_rfl))
  t0 := Tryd.underlying0
  a0 := Tryd.isAgg0
  z0 := Tryd.sizeOf0
  v0 := Tryd.zeroValue0
  t2 := Tryd.underlying2
  a2 := Tryd.isAgg2
  z2 := Tryd.sizeOf2
  v2 := Tryd.zeroValue2
  t3 := Tryd.underlying3
  a3 := Tryd.isAgg3
  z3 := Tryd.sizeOf3
  v3 := Tryd.zeroValue3
  t4 := Tryd.underlying4
  a4 := Tryd.isAgg4
  z4 := Tryd.sizeOf4
  v4 := Tryd.zeroValue4
  t5 := Tryd.underlying5
  a5 := Tryd.isAgg5
  z5 := Tryd.sizeOf5
  v5 := Tryd.zeroValue5
  t9 := Tryd.underlying9
  a9 := Tryd.isAgg9
  z9 := Tryd.sizeOf9
  v9 := Tryd.zeroValue9
  t20 := Tryd.underlying20
  a20 := Tryd.isAgg20
  z20 := Tryd.sizeOf20
  v20 := Tryd.zeroValue20
  t37 := Tryd.underlying77
  a37 := Tryd.isAgg77
  z37 := Tryd.sizeOf77
  v37 := Tryd.zeroValue77
  t46 := Tryd.underlying161
  a46 := Tryd.isAgg161
  z46 := Tryd.sizeOf161
  v46 := Tryd.zeroValue161
  t51 := Tryd.underlying160
  a51 := Tryd.isAgg160
  z51 := Tryd.sizeOf160
  v51 := Tryd.zeroValue160
  t53 := Tryd.underlying64
  a53 := Tryd.isAgg64
  z53 := Tryd.sizeOf64
  v53 := Tryd.zeroValue64
  t171 := Tryd.underlying176
  a171 := Tryd.isAgg176
  z171 := Tryd.sizeOf176
  v171 := Tryd.zeroValue176
  t173 := Tryd.underlying179
  a173 := Tryd.isAgg179
  z173 := Tryd.sizeOf179
  v173 := Tryd.zeroValue179
  t212 := Tryd.underlying182
  a212 := Tryd.isAgg182
  z212 := Tryd.sizeOf182
  v212 := Tryd.zeroValue182
  t213 := Tryd.underlying183
  a213 := Tryd.isAgg183
  z213 := Tryd.sizeOf183
  t232 := Tryd.underlying186
  a232 := Tryd.isAgg186
  z232 := Tryd.sizeOf186
  v232 := Tryd.zeroValue186
  t233 := Tryd.underlying122
  a233 := Tryd.isAgg122
  z233 := Tryd.sizeOf122
  v233 := Tryd.zeroValue122
  g17 := by kernel_rfl
  g18 := by kernel_rfl
  g19 := by kernel_rfl }
open Go.RowKit Go.Sort Go.Lib in
/-- THE ROAD WITHOUT THE TABLE: 0 <= i < 100. (LAID: no walk: one application.) -/
theorem Tryd.internal_strconv_Itoa_small (i : Nat) (hi : i < 100) (w : World) :
    Calls Tryd.prog 126 #[.int .i64 i] w fun e w' => e = .returned (.string ⟨(Lib.decDigits i).toArray⟩) ∧ w' = w := Any.internal_strconv_Itoa_small Tryd.lays243 i hi w
def Tryd.laysM171_ren : Go.Shelf.Ren := ⟨fun | 171 => 123 | 243 => 126 | 246 => 127 | 283 => 128 | 284 => 129 | 285 => 130 | 286 => 131 | 129 => 133 | 317 => 132 | 318 => 134 | 319 => 135 | 320 => 136 | 337 => 137 | 338 => 138 | n => n, fun | 3 => 3 | 9 => 9 | 2 => 2 | 4 => 4 | 171 => 176 | 0 => 0 | 53 => 64 | 37 => 77 | 5 => 5 | 173 => 179 | 212 => 182 | 51 => 160 | 20 => 20 | 213 => 183 | 46 => 161 | 232 => 186 | 233 => 122 | n => n, fun | 17 => 16 | 18 => 17 | 19 => 18 | n => n⟩
theorem Tryd.laysM171 : Go.Proofs.LaysM.n171 Tryd.prog Tryd.laysM171_ren := {
  mixed := by kernel_rfl
  f129 := Tryd.func133.trans (congrArg some (by kernel_rfl))
  f171 := Tryd.func123.trans (congrArg some (by kernel_rfl))
  f243 := Tryd.func126.trans (congrArg some (by kernel_rfl))
  f246 := Tryd.func127.trans (congrArg some (by kernel_rfl))
  f283 := Tryd.func128.trans (congrArg some (by kernel_rfl))
  f284 := Tryd.func129.trans (congrArg some (by kernel_rfl))
  f285 := Tryd.func130.trans (congrArg some (by kernel_rfl))
  f286 := Tryd.func131.trans (congrArg some (by kernel_rfl))
  f317 := Tryd.func132.trans (congrArg some (by kernel_rfl))
  f318 := Tryd.func134.trans (congrArg some (by kernel_rfl))
  f319 := Tryd.func135.trans (congrArg some (by kernel_rfl))
  f320 := Tryd.func136.trans (congrArg some (by kernel_rfl))
  f337 := Tryd.func137.trans (congrArg some (by kernel_rfl))
  f338 := Tryd.func138.trans (congrArg some (by kernel_rfl))
  t0 := Tryd.underlying0
  a0 := Tryd.isAgg0
  z0 := Tryd.sizeOf0
  v0 := Tryd.zeroValue0
  t2 := Tryd.underlying2
  a2 := Tryd.isAgg2
  z2 := Tryd.sizeOf2
  v2 := Tryd.zeroValue2
  t3 := Tryd.underlying3
  a3 := Tryd.isAgg3
  z3 := Tryd.sizeOf3
  v3 := Tryd.zeroValue3
  t4 := Tryd.underlying4
  a4 := Tryd.isAgg4
  z4 := Tryd.sizeOf4
  v4 := Tryd.zeroValue4
  t5 := Tryd.underlying5
  a5 := Tryd.isAgg5
  z5 := Tryd.sizeOf5
  v5 := Tryd.zeroValue5
  t9 := Tryd.underlying9
  a9 := Tryd.isAgg9
  z9 := Tryd.sizeOf9
  v9 := Tryd.zeroValue9
  t20 := Tryd.underlying20
  a20 := Tryd.isAgg20
  z20 := Tryd.sizeOf20
  v20 := Tryd.zeroValue20
  t37 := Tryd.underlying77
  a37 := Tryd.isAgg77
  z37 := Tryd.sizeOf77
  v37 := Tryd.zeroValue77
  t46 := Tryd.underlying161
  a46 := Tryd.isAgg161
  z46 := Tryd.sizeOf161
  v46 := Tryd.zeroValue161
  t51 := Tryd.underlying160
  a51 := Tryd.isAgg160
  z51 := Tryd.sizeOf160
  v51 := Tryd.zeroValue160
  t53 := Tryd.underlying64
  a53 := Tryd.isAgg64
  z53 := Tryd.sizeOf64
  v53 := Tryd.zeroValue64
  t171 := Tryd.underlying176
  a171 := Tryd.isAgg176
  z171 := Tryd.sizeOf176
  v171 := Tryd.zeroValue176
  t173 := Tryd.underlying179
  a173 := Tryd.isAgg179
  z173 := Tryd.sizeOf179
  v173 := Tryd.zeroValue179
  t212 := Tryd.underlying182
  a212 := Tryd.isAgg182
  z212 := Tryd.sizeOf182
  v212 := Tryd.zeroValue182
  t213 := Tryd.underlying183
  a213 := Tryd.isAgg183
  z213 := Tryd.sizeOf183
  t232 := Tryd.underlying186
  a232 := Tryd.isAgg186
  z232 := Tryd.sizeOf186
  v232 := Tryd.zeroValue186
  t233 := Tryd.underlying122
  a233 := Tryd.isAgg122
  z233 := Tryd.sizeOf122
  v233 := Tryd.zeroValue122
  g17 := by kernel_rfl
  g18 := by kernel_rfl
  g19 := by kernel_rfl
  i0 := by kernel_rfl
  i2 := by kernel_rfl
  i3 := by kernel_rfl
  i4 := by kernel_rfl
  i5 := by kernel_rfl
  i9 := by kernel_rfl
  i20 := by kernel_rfl
  i37 := by kernel_rfl
  i46 := by kernel_rfl
  i51 := by kernel_rfl
  i53 := by kernel_rfl
  i171 := by kernel_rfl
  i173 := by kernel_rfl
  i212 := by kernel_rfl
  i232 := by kernel_rfl
  i233 := by kernel_rfl
  m17 := by kernel_rfl
  m18 := by kernel_rfl
  m19 := by kernel_rfl }
open Go.RowKit Go.Sort Go.Lib in
/-- strconv.Itoa: "Itoa is equivalent to FormatInt(int64(i), 10).": i's DECIMAL NUMERAL ('Lib.itoa': a '-' where i is negative, then the digits), FOR EVERY int. The world behind the call: the world before it, new blocks behind the heap (the library's 'var a [24]byte'), draws. (LAID: no walk: one application.) -/
theorem Tryd.strconv_Itoa (n : Int) (h0 : -9223372036854775808 ≤ n) (h1 : n ≤ 9223372036854775807) (w : World) (htab : Lib.TabIs Tryd.prog w "internal/strconv.uint64pow10" .u64 Lib.pow10Tab) :
    Calls Tryd.prog 123 #[.int .i64 n] w fun e w' => e = .returned (.string ⟨(Lib.itoa n).toArray⟩) ∧ ∃ k os, w' = grow (w.drewN k) os := Any.strconv_Itoa Tryd.laysM171 n h0 h1 w htab
def Tryd.lays171_ren : Go.Shelf.Ren := ⟨fun | 171 => 123 | 243 => 126 | 246 => 127 | 283 => 128 | 284 => 129 | 285 => 130 | 286 => 131 | 129 => 133 | 317 => 132 | 318 => 134 | 319 => 135 | 320 => 136 | 337 => 137 | 338 => 138 | n => n, fun | 3 => 3 | 9 => 9 | 2 => 2 | 4 => 4 | 171 => 176 | 0 => 0 | 53 => 64 | 37 => 77 | 5 => 5 | 173 => 179 | 212 => 182 | 51 => 160 | 20 => 20 | 213 => 183 | 46 => 161 | 232 => 186 | 233 => 122 | n => n, fun | 17 => 16 | 18 => 17 | 19 => 18 | n => n⟩
theorem Tryd.lays171 : Go.Proofs.Lays.n171 Tryd.prog Tryd.lays171_ren := {
  mixed := by kernel_rfl
  f129 := Tryd.func133.trans (congrArg some (by kernel_rfl))
  f171 := Tryd.func123.trans (congrArg some (by kernel_rfl))
  f243 := Tryd.func126.trans (congrArg some (by kernel_rfl))
  f246 := Tryd.func127.trans (congrArg some (by kernel_rfl))
  f283 := Tryd.func128.trans (congrArg some (by kernel_rfl))
  f284 := Tryd.func129.trans (congrArg some (by kernel_rfl))
  f285 := Tryd.func130.trans (congrArg some (by kernel_rfl))
  f286 := Tryd.func131.trans (congrArg some (by kernel_rfl))
  f317 := Tryd.func132.trans (congrArg some (by kernel_rfl))
  f318 := Tryd.func134.trans (congrArg some (by kernel_rfl))
  f319 := Tryd.func135.trans (congrArg some (by kernel_rfl))
  f320 := Tryd.func136.trans (congrArg some (by kernel_rfl))
  f337 := Tryd.func137.trans (congrArg some (by kernel_rfl))
  f338 := Tryd.func138.trans (congrArg some (by kernel_rfl))
  t0 := Tryd.underlying0
  a0 := Tryd.isAgg0
  z0 := Tryd.sizeOf0
  v0 := Tryd.zeroValue0
  t2 := Tryd.underlying2
  a2 := Tryd.isAgg2
  z2 := Tryd.sizeOf2
  v2 := Tryd.zeroValue2
  t3 := Tryd.underlying3
  a3 := Tryd.isAgg3
  z3 := Tryd.sizeOf3
  v3 := Tryd.zeroValue3
  t4 := Tryd.underlying4
  a4 := Tryd.isAgg4
  z4 := Tryd.sizeOf4
  v4 := Tryd.zeroValue4
  t5 := Tryd.underlying5
  a5 := Tryd.isAgg5
  z5 := Tryd.sizeOf5
  v5 := Tryd.zeroValue5
  t9 := Tryd.underlying9
  a9 := Tryd.isAgg9
  z9 := Tryd.sizeOf9
  v9 := Tryd.zeroValue9
  t20 := Tryd.underlying20
  a20 := Tryd.isAgg20
  z20 := Tryd.sizeOf20
  v20 := Tryd.zeroValue20
  t37 := Tryd.underlying77
  a37 := Tryd.isAgg77
  z37 := Tryd.sizeOf77
  v37 := Tryd.zeroValue77
  t46 := Tryd.underlying161
  a46 := Tryd.isAgg161
  z46 := Tryd.sizeOf161
  v46 := Tryd.zeroValue161
  t51 := Tryd.underlying160
  a51 := Tryd.isAgg160
  z51 := Tryd.sizeOf160
  v51 := Tryd.zeroValue160
  t53 := Tryd.underlying64
  a53 := Tryd.isAgg64
  z53 := Tryd.sizeOf64
  v53 := Tryd.zeroValue64
  t171 := Tryd.underlying176
  a171 := Tryd.isAgg176
  z171 := Tryd.sizeOf176
  v171 := Tryd.zeroValue176
  t173 := Tryd.underlying179
  a173 := Tryd.isAgg179
  z173 := Tryd.sizeOf179
  v173 := Tryd.zeroValue179
  t212 := Tryd.underlying182
  a212 := Tryd.isAgg182
  z212 := Tryd.sizeOf182
  v212 := Tryd.zeroValue182
  t213 := Tryd.underlying183
  a213 := Tryd.isAgg183
  z213 := Tryd.sizeOf183
  t232 := Tryd.underlying186
  a232 := Tryd.isAgg186
  z232 := Tryd.sizeOf186
  v232 := Tryd.zeroValue186
  t233 := Tryd.underlying122
  a233 := Tryd.isAgg122
  z233 := Tryd.sizeOf122
  v233 := Tryd.zeroValue122
  g17 := by kernel_rfl
  g18 := by kernel_rfl
  g19 := by kernel_rfl }
open Go.RowKit Go.Sort Go.Lib in
/-- THE ROAD WITHOUT THE TABLE: 0 <= i < 100: NO PREMISE ON THE WORLD, AND THE WORLD IS AS IT WAS: a row that keeps its argument in that range need list no table ('laid = []'). (LAID: no walk: one application.) -/
theorem Tryd.strconv_Itoa_small (i : Nat) (hi : i < 100) (w : World) :
    Calls Tryd.prog 123 #[.int .i64 i] w fun e w' => e = .returned (.string ⟨(Lib.decDigits i).toArray⟩) ∧ w' = w := Any.strconv_Itoa_small Tryd.lays171 i hi w
open Go.RowKit in
/-- internal/strconv.Atoi, at a string of 1 to 18 bytes THAT IS NO DECIMAL NUMERAL: 0, AND ErrSyntax (the package's own error number 2). The world behind the call: as it was, or with the one new row that '[]byte(s)' lays. (LAID: no walk: one application.) -/
theorem Tryd.internal_strconv_Atoi_err (s : ByteArray) (hl0 : 1 ≤ s.size) (hl : s.size ≤ 18) (h : Lib.atoi s.data.toList = none) (w : World) :
    Calls Tryd.prog 109 #[.string s] w fun e w' => e = .returned (.tuple #[.int .i64 0, (.iface 162 (.int .i64 2))]) ∧ (w' = w ∨ ∃ t, w' = Lib.bytesWorld w 5 t) := Any.internal_strconv_Atoi_err Tryd.lays244 s hl0 hl h w
def Tryd.lays247_ren : Go.Shelf.Ren := ⟨fun | 247 => 115 | 287 => 121 | 321 => 124 | 322 => 125 | n => n, fun | 9 => 9 | 3 => 3 | 2 => 2 | 75 => 74 | 4 => 4 | 167 => 162 | 5 => 5 | 53 => 64 | 175 => 169 | 46 => 161 | 37 => 77 | 0 => 0 | 21 => 21 | 80 => 187 | n => n, fun | n => n⟩
theorem Tryd.lays247 : Go.Proofs.Lays.n247 Tryd.prog Tryd.lays247_ren := {
  mixed := by kernel_rfl
  f247 := Tryd.func115.trans (congrArg some (by kernel_rfl))
  f287 := Tryd.func121.trans (congrArg some (by kernel_rfl))
  f321 := Tryd.func124.trans (congrArg some (by kernel_rfl))
  f322 := Tryd.func125.trans (congrArg some (by kernel_rfl))
  t0 := Tryd.underlying0
  a0 := Tryd.isAgg0
  z0 := Tryd.sizeOf0
  v0 := Tryd.zeroValue0
  t2 := Tryd.underlying2
  a2 := Tryd.isAgg2
  z2 := Tryd.sizeOf2
  v2 := Tryd.zeroValue2
  t3 := Tryd.underlying3
  a3 := Tryd.isAgg3
  z3 := Tryd.sizeOf3
  v3 := Tryd.zeroValue3
  t4 := Tryd.underlying4
  a4 := Tryd.isAgg4
  z4 := Tryd.sizeOf4
  v4 := Tryd.zeroValue4
  t5 := Tryd.underlying5
  a5 := Tryd.isAgg5
  z5 := Tryd.sizeOf5
  v5 := Tryd.zeroValue5
  t9 := Tryd.underlying9
  a9 := Tryd.isAgg9
  z9 := Tryd.sizeOf9
  v9 := Tryd.zeroValue9
  t21 := Tryd.underlying21
  a21 := Tryd.isAgg21
  z21 := Tryd.sizeOf21
  v21 := Tryd.zeroValue21
  t37 := Tryd.underlying77
  a37 := Tryd.isAgg77
  z37 := Tryd.sizeOf77
  v37 := Tryd.zeroValue77
  t46 := Tryd.underlying161
  a46 := Tryd.isAgg161
  z46 := Tryd.sizeOf161
  v46 := Tryd.zeroValue161
  t53 := Tryd.underlying64
  a53 := Tryd.isAgg64
  z53 := Tryd.sizeOf64
  v53 := Tryd.zeroValue64
  t75 := Tryd.underlying74
  a75 := Tryd.isAgg74
  z75 := Tryd.sizeOf74
  v75 := Tryd.zeroValue74
  t167 := Tryd.underlying162
  a167 := Tryd.isAgg162
  z167 := Tryd.sizeOf162
  v167 := Tryd.zeroValue162
  t175 := Tryd.underlying169
  a175 := Tryd.isAgg169
  z175 := Tryd.sizeOf169
  v175 := Tryd.zeroValue169 }
open Go.RowKit in
/-- internal/strconv.ParseInt at "": 'if s == "" { return 0, ErrSyntax }'. The world is as it was. (LAID: no walk: one application.) -/
theorem Tryd.internal_strconv_ParseInt_empty (base bits : Int) (w : World) :
    Calls Tryd.prog 115 #[.string ⟨#[]⟩, .int .i64 base, .int .i64 bits] w fun e w' => e = .returned (.tuple #[.int .i64 0, (.iface 162 (.int .i64 2))]) ∧ w' = w := Any.internal_strconv_ParseInt_empty Tryd.lays247 base bits w
open Go.RowKit in
/-- internal/strconv.Atoi at "". (LAID: no walk: one application.) -/
theorem Tryd.internal_strconv_Atoi_empty (w : World) :
    Calls Tryd.prog 109 #[.string ⟨#[]⟩] w fun e w' => e = .returned (.tuple #[.int .i64 0, (.iface 162 (.int .i64 2))]) ∧ w' = w := Any.internal_strconv_Atoi_empty Tryd.lays244 w
open Go.RowKit in
/-- internal/strconv.Atoi, AT EVERY STRING OF AT MOST 18 BYTES THAT IS NO DECIMAL NUMERAL: 0, and ErrSyntax. (LAID: no walk: one application.) -/
theorem Tryd.internal_strconv_Atoi_fail (s : ByteArray) (hl : s.size ≤ 18) (h : Lib.atoi s.data.toList = none) (w : World) :
    Calls Tryd.prog 109 #[.string s] w fun e w' => e = .returned (.tuple #[.int .i64 0, (.iface 162 (.int .i64 2))]) ∧ (w' = w ∨ ∃ t, w' = Lib.bytesWorld w 5 t) := Any.internal_strconv_Atoi_fail Tryd.lays244 s hl h w
def Tryd.laysM316_ren : Go.Shelf.Ren := ⟨fun | 316 => 122 | n => n, fun | 9 => 9 | 3 => 3 | 4 => 4 | 37 => 77 | 0 => 0 | 127 => 174 | 5 => 5 | n => n, fun | n => n⟩
theorem Tryd.laysM316 : Go.Proofs.LaysM.n316 Tryd.prog Tryd.laysM316_ren := {
  mixed := by kernel_rfl
  f316 := Tryd.func122.trans (congrArg some (by kernel_rfl))
  t0 := Tryd.underlying0
  a0 := Tryd.isAgg0
  z0 := Tryd.sizeOf0
  v0 := Tryd.zeroValue0
  t3 := Tryd.underlying3
  a3 := Tryd.isAgg3
  z3 := Tryd.sizeOf3
  v3 := Tryd.zeroValue3
  t4 := Tryd.underlying4
  a4 := Tryd.isAgg4
  z4 := Tryd.sizeOf4
  v4 := Tryd.zeroValue4
  t9 := Tryd.underlying9
  a9 := Tryd.isAgg9
  z9 := Tryd.sizeOf9
  v9 := Tryd.zeroValue9
  t37 := Tryd.underlying77
  a37 := Tryd.isAgg77
  z37 := Tryd.sizeOf77
  v37 := Tryd.zeroValue77
  t127 := Tryd.underlying174
  a127 := Tryd.isAgg174
  z127 := Tryd.sizeOf174
  v127 := Tryd.zeroValue174
  t5 := Tryd.underlying5
  a5 := Tryd.isAgg5
  z5 := Tryd.sizeOf5
  v5 := Tryd.zeroValue5
  i0 := by kernel_rfl
  i3 := by kernel_rfl
  i4 := by kernel_rfl
  i5 := by kernel_rfl
  i9 := by kernel_rfl
  i37 := by kernel_rfl
  i127 := by kernel_rfl }
open Go.RowKit in
/-- internal/stringslite.Clone (what strings.Clone calls): "Clone returns a fresh copy of s.": THE SAME BYTES. Of what was there nothing has turned (a new row is laid, and frozen, where s is not empty). (LAID: no walk: one application.) -/
theorem Tryd.stringslite_Clone (s : ByteArray) (w : World) (hlim : s.size ≤ 281474976710656) :
    Calls Tryd.prog 122 #[.string s] w fun e w' => e = .returned (.string s) ∧ Below w.heap.size w w' := Any.stringslite_Clone Tryd.laysM316 s w hlim
def Tryd.laysM279_ren : Go.Shelf.Ren := ⟨fun | 279 => 116 | 316 => 122 | n => n, fun | 9 => 9 | 168 => 165 | 75 => 74 | 210 => 172 | 3 => 3 | 4 => 4 | 37 => 77 | 0 => 0 | 127 => 174 | 80 => 187 | 5 => 5 | n => n, fun | 15 => 14 | n => n⟩
theorem Tryd.laysM279 : Go.Proofs.LaysM.n279 Tryd.prog Tryd.laysM279_ren := {
  mixed := by kernel_rfl
  f279 := Tryd.func116.trans (congrArg some (by kernel_rfl))
  f316 := Tryd.func122.trans (congrArg some (by kernel_rfl))
  t0 := Tryd.underlying0
  a0 := Tryd.isAgg0
  z0 := Tryd.sizeOf0
  v0 := Tryd.zeroValue0
  t3 := Tryd.underlying3
  a3 := Tryd.isAgg3
  z3 := Tryd.sizeOf3
  v3 := Tryd.zeroValue3
  t4 := Tryd.underlying4
  a4 := Tryd.isAgg4
  z4 := Tryd.sizeOf4
  v4 := Tryd.zeroValue4
  t9 := Tryd.underlying9
  a9 := Tryd.isAgg9
  z9 := Tryd.sizeOf9
  v9 := Tryd.zeroValue9
  t37 := Tryd.underlying77
  a37 := Tryd.isAgg77
  z37 := Tryd.sizeOf77
  v37 := Tryd.zeroValue77
  t75 := Tryd.underlying74
  a75 := Tryd.isAgg74
  z75 := Tryd.sizeOf74
  v75 := Tryd.zeroValue74
  t127 := Tryd.underlying174
  a127 := Tryd.isAgg174
  z127 := Tryd.sizeOf174
  v127 := Tryd.zeroValue174
  t168 := Tryd.underlying165
  a168 := Tryd.isAgg165
  z168 := Tryd.sizeOf165
  v168 := Tryd.zeroValue165
  t210 := Tryd.underlying172
  a210 := Tryd.isAgg172
  z210 := Tryd.sizeOf172
  v210 := Tryd.zeroValue172
  g15 := by kernel_rfl
  t5 := Tryd.underlying5
  a5 := Tryd.isAgg5
  z5 := Tryd.sizeOf5
  v5 := Tryd.zeroValue5
  t80 := Tryd.underlying187
  a80 := Tryd.isAgg187
  z80 := Tryd.sizeOf187
  v80 := Tryd.zeroValue187
  i0 := by kernel_rfl
  i3 := by kernel_rfl
  i4 := by kernel_rfl
  i5 := by kernel_rfl
  i9 := by kernel_rfl
  i37 := by kernel_rfl
  i75 := by kernel_rfl
  i80 := by kernel_rfl
  i127 := by kernel_rfl
  i168 := by kernel_rfl
  i210 := by kernel_rfl
  m15 := by kernel_rfl }
open Go.RowKit in
/-- strconv.syntaxError: '&NumError{fn, stringslite.Clone(str), ErrSyntax}': A POINTER TO A NEW BLOCK that holds fn, str's bytes, and what the variable ErrSyntax holds. Of what was there nothing has turned. (LAID: no walk: one application.) -/
theorem Tryd.strconv_syntaxError (fn s : ByteArray) (ev : Value) (w : World) (hlim : s.size ≤ 281474976710656) (hv : w.cell? ⟨14, 0, none⟩ = some ev) (hev : ev = .nilIface ∨ ∃ te pe, ev = .iface te pe) :
    Calls Tryd.prog 116 #[.string fn, .string s] w fun e w' => ∃ N, e = .returned (.pointer (some ⟨N, 0, none⟩)) ∧ w.heap.size ≤ N ∧ w'.heap[N]? = some (.cells #[.string fn, .string s, ev] 172 (0, 0)) ∧ Below w.heap.size w w' := Any.strconv_syntaxError Tryd.laysM279 fn s ev w hlim hv hev
def Tryd.laysC245_ren : Go.Shelf.Ren := ⟨fun | 245 => 110 | 279 => 116 | 280 => 117 | 281 => 118 | 282 => 119 | 316 => 122 | 171 => 123 | 205 => 75 | 243 => 126 | 246 => 127 | 283 => 128 | 284 => 129 | 285 => 130 | 286 => 131 | 129 => 133 | 317 => 132 | 318 => 134 | 319 => 135 | 320 => 136 | 337 => 137 | 338 => 138 | n => n, fun | 9 => 9 | 3 => 3 | 75 => 74 | 167 => 162 | 4 => 4 | 168 => 165 | 210 => 172 | 37 => 77 | 0 => 0 | 127 => 174 | 145 => 134 | 143 => 132 | 2 => 2 | 171 => 176 | 53 => 64 | 5 => 5 | 173 => 179 | 212 => 182 | 51 => 160 | 20 => 20 | 213 => 183 | 46 => 161 | 232 => 186 | 233 => 122 | 80 => 187 | n => n, fun | 15 => 14 | 16 => 15 | 17 => 16 | 18 => 17 | 19 => 18 | n => n⟩
theorem Tryd.laysC245 : Go.Proofs.LaysC.n245 Tryd.prog Tryd.laysC245_ren := {
  mixed := by kernel_rfl
  f129 := Tryd.func133.trans (congrArg some (by kernel_rfl))
  f171 := Tryd.func123.trans (congrArg some (by kernel_rfl))
  f205 := Tryd.func75.trans (congrArg some (by kernel_rfl))
  f243 := Tryd.func126.trans (congrArg some (by kernel_rfl))
  f245 := Tryd.func110.trans (congrArg some (by kernel_rfl))
  f246 := Tryd.func127.trans (congrArg some (by kernel_rfl))
  f279 := Tryd.func116.trans (congrArg some (by kernel_rfl))
  f280 := Tryd.func117.trans (congrArg some (by kernel_rfl))
  f281 := Tryd.func118.trans (congrArg some (by kernel_rfl))
  f282 := Tryd.func119.trans (congrArg some (by kernel_rfl))
  f283 := Tryd.func128.trans (congrArg some (by kernel_rfl))
  f284 := Tryd.func129.trans (congrArg some (by kernel_rfl))
  f285 := Tryd.func130.trans (congrArg some (by kernel_rfl))
  f286 := Tryd.func131.trans (congrArg some (by kernel_rfl))
  f316 := Tryd.func122.trans (congrArg some (by kernel_rfl))
  f317 := Tryd.func132.trans (congrArg some (by kernel_rfl))
  f318 := Tryd.func134.trans (congrArg some (by kernel_rfl))
  f319 := Tryd.func135.trans (congrArg some (by kernel_rfl))
  f320 := Tryd.func136.trans (congrArg some (by kernel_rfl))
  f337 := Tryd.func137.trans (congrArg some (by kernel_rfl))
  f338 := Tryd.func138.trans (congrArg some (by kernel_rfl))
  t0 := Tryd.underlying0
  a0 := Tryd.isAgg0
  z0 := Tryd.sizeOf0
  v0 := Tryd.zeroValue0
  t2 := Tryd.underlying2
  a2 := Tryd.isAgg2
  z2 := Tryd.sizeOf2
  v2 := Tryd.zeroValue2
  t3 := Tryd.underlying3
  a3 := Tryd.isAgg3
  z3 := Tryd.sizeOf3
  v3 := Tryd.zeroValue3
  t4 := Tryd.underlying4
  a4 := Tryd.isAgg4
  z4 := Tryd.sizeOf4
  v4 := Tryd.zeroValue4
  t5 := Tryd.underlying5
  a5 := Tryd.isAgg5
  z5 := Tryd.sizeOf5
  v5 := Tryd.zeroValue5
  t9 := Tryd.underlying9
  a9 := Tryd.isAgg9
  z9 := Tryd.sizeOf9
  v9 := Tryd.zeroValue9
  t20 := Tryd.underlying20
  a20 := Tryd.isAgg20
  z20 := Tryd.sizeOf20
  v20 := Tryd.zeroValue20
  t37 := Tryd.underlying77
  a37 := Tryd.isAgg77
  z37 := Tryd.sizeOf77
  v37 := Tryd.zeroValue77
  t46 := Tryd.underlying161
  a46 := Tryd.isAgg161
  z46 := Tryd.sizeOf161
  v46 := Tryd.zeroValue161
  t51 := Tryd.underlying160
  a51 := Tryd.isAgg160
  z51 := Tryd.sizeOf160
  v51 := Tryd.zeroValue160
  t53 := Tryd.underlying64
  a53 := Tryd.isAgg64
  z53 := Tryd.sizeOf64
  v53 := Tryd.zeroValue64
  t75 := Tryd.underlying74
  a75 := Tryd.isAgg74
  z75 := Tryd.sizeOf74
  v75 := Tryd.zeroValue74
  t127 := Tryd.underlying174
  a127 := Tryd.isAgg174
  z127 := Tryd.sizeOf174
  v127 := Tryd.zeroValue174
  t143 := Tryd.underlying132
  a143 := Tryd.isAgg132
  z143 := Tryd.sizeOf132
  v143 := Tryd.zeroValue132
  t145 := Tryd.underlying134
  a145 := Tryd.isAgg134
  z145 := Tryd.sizeOf134
  v145 := Tryd.zeroValue134
  t167 := Tryd.underlying162
  a167 := Tryd.isAgg162
  z167 := Tryd.sizeOf162
  v167 := Tryd.zeroValue162
  t168 := Tryd.underlying165
  a168 := Tryd.isAgg165
  z168 := Tryd.sizeOf165
  v168 := Tryd.zeroValue165
  t171 := Tryd.underlying176
  a171 := Tryd.isAgg176
  z171 := Tryd.sizeOf176
  v171 := Tryd.zeroValue176
  t173 := Tryd.underlying179
  a173 := Tryd.isAgg179
  z173 := Tryd.sizeOf179
  v173 := Tryd.zeroValue179
  t210 := Tryd.underlying172
  a210 := Tryd.isAgg172
  z210 := Tryd.sizeOf172
  v210 := Tryd.zeroValue172
  t212 := Tryd.underlying182
  a212 := Tryd.isAgg182
  z212 := Tryd.sizeOf182
  v212 := Tryd.zeroValue182
  t213 := Tryd.underlying183
  a213 := Tryd.isAgg183
  z213 := Tryd.sizeOf183
  t232 := Tryd.underlying186
  a232 := Tryd.isAgg186
  z232 := Tryd.sizeOf186
  v232 := Tryd.zeroValue186
  t233 := Tryd.underlying122
  a233 := Tryd.isAgg122
  z233 := Tryd.sizeOf122
  v233 := Tryd.zeroValue122
  g15 := by kernel_rfl
  g16 := by kernel_rfl
  g17 := by kernel_rfl
  g18 := by kernel_rfl
  g19 := by kernel_rfl
  t80 := Tryd.underlying187
  a80 := Tryd.isAgg187
  z80 := Tryd.sizeOf187
  v80 := Tryd.zeroValue187
  i0 := by kernel_rfl
  i2 := by kernel_rfl
  i3 := by kernel_rfl
  i4 := by kernel_rfl
  i5 := by kernel_rfl
  i9 := by kernel_rfl
  i20 := by kernel_rfl
  i37 := by kernel_rfl
  i46 := by kernel_rfl
  i51 := by kernel_rfl
  i53 := by kernel_rfl
  i75 := by kernel_rfl
  i80 := by kernel_rfl
  i127 := by kernel_rfl
  i143 := by kernel_rfl
  i145 := by kernel_rfl
  i167 := by kernel_rfl
  i168 := by kernel_rfl
  i171 := by kernel_rfl
  i173 := by kernel_rfl
  i210 := by kernel_rfl
  i212 := by kernel_rfl
  i232 := by kernel_rfl
  i233 := by kernel_rfl
  m15 := by kernel_rfl
  m16 := by kernel_rfl
  m17 := by kernel_rfl
  m18 := by kernel_rfl
  m19 := by kernel_rfl
  c0 := by kernel_rfl
  c2 := by kernel_rfl
  c3 := by kernel_rfl
  c4 := by kernel_rfl
  c5 := by kernel_rfl
  c9 := by kernel_rfl
  c20 := by kernel_rfl
  c37 := by kernel_rfl
  c46 := by kernel_rfl
  c51 := by kernel_rfl
  c53 := by kernel_rfl
  c75 := by kernel_rfl
  c80 := by kernel_rfl
  c127 := by kernel_rfl
  c143 := by kernel_rfl
  c145 := by kernel_rfl
  c167 := by kernel_rfl
  c168 := by kernel_rfl
  c171 := by kernel_rfl
  c173 := by kernel_rfl
  c210 := by kernel_rfl
  c212 := by kernel_rfl
  c213 := by kernel_rfl
  c232 := by kernel_rfl
  c233 := by kernel_rfl }
open Go.RowKit in
/-- strconv.toError, at the inner package's ErrSyntax: 'syntaxError(fn, s)' as an error: A *NumError IN A NEW BLOCK. (LAID: no walk: one application.) -/
theorem Tryd.strconv_toError_syntax (fn s : ByteArray) (base bits : Int) (ev : Value) (w : World) (hlim : s.size ≤ 281474976710656) (hv : w.cell? ⟨14, 0, none⟩ = some ev) (hev : ev = .nilIface ∨ ∃ te pe, ev = .iface te pe) :
    Calls Tryd.prog 110 #[.string fn, .string s, .int .i64 base, .int .i64 bits, .iface 162 (.int .i64 2)] w fun e w' => ∃ N, e = .returned (.iface 165 (.pointer (some ⟨N, 0, none⟩))) ∧ w.heap.size ≤ N ∧ w'.heap[N]? = some (.cells #[.string fn, .string s, ev] 172 (0, 0)) ∧ Below w.heap.size w w' := Any.strconv_toError_syntax Tryd.laysC245 fn s base bits ev w hlim hv hev
def Tryd.laysC172_ren : Go.Shelf.Ren := ⟨fun | 172 => 100 | 244 => 109 | 245 => 110 | 247 => 115 | 279 => 116 | 280 => 117 | 281 => 118 | 282 => 119 | 287 => 121 | 316 => 122 | 171 => 123 | 205 => 75 | 321 => 124 | 322 => 125 | 243 => 126 | 246 => 127 | 283 => 128 | 284 => 129 | 285 => 130 | 286 => 131 | 129 => 133 | 317 => 132 | 318 => 134 | 319 => 135 | 320 => 136 | 337 => 137 | 338 => 138 | n => n, fun | 9 => 9 | 3 => 3 | 75 => 74 | 76 => 75 | 4 => 4 | 5 => 5 | 167 => 162 | 37 => 77 | 0 => 0 | 85 => 163 | 2 => 2 | 168 => 165 | 53 => 64 | 175 => 169 | 46 => 161 | 210 => 172 | 127 => 174 | 145 => 134 | 143 => 132 | 21 => 21 | 171 => 176 | 173 => 179 | 212 => 182 | 51 => 160 | 20 => 20 | 213 => 183 | 232 => 186 | 233 => 122 | 80 => 187 | n => n, fun | 15 => 14 | 16 => 15 | 17 => 16 | 18 => 17 | 19 => 18 | n => n⟩
theorem Tryd.laysC172 : Go.Proofs.LaysC.n172 Tryd.prog Tryd.laysC172_ren := {
  mixed := by kernel_rfl
  f129 := Tryd.func133.trans (congrArg some (by kernel_rfl))
  f171 := Tryd.func123.trans (congrArg some (by kernel_rfl))
  f172 := Tryd.func100.trans (congrArg some (by kernel_rfl))
  f205 := Tryd.func75.trans (congrArg some (by kernel_rfl))
  f243 := Tryd.func126.trans (congrArg some (by kernel_rfl))
  f244 := Tryd.func109.trans (congrArg some (by kernel_rfl))
  f245 := Tryd.func110.trans (congrArg some (by kernel_rfl))
  f246 := Tryd.func127.trans (congrArg some (by kernel_rfl))
  f247 := Tryd.func115.trans (congrArg some (by kernel_rfl))
  f279 := Tryd.func116.trans (congrArg some (by kernel_rfl))
  f280 := Tryd.func117.trans (congrArg some (by kernel_rfl))
  f281 := Tryd.func118.trans (congrArg some (by kernel_rfl))
  f282 := Tryd.func119.trans (congrArg some (by kernel_rfl))
  f283 := Tryd.func128.trans (congrArg some (by kernel_rfl))
  f284 := Tryd.func129.trans (congrArg some (by kernel_rfl))
  f285 := Tryd.func130.trans (congrArg some (by kernel_rfl))
  f286 := Tryd.func131.trans (congrArg some (by kernel_rfl))
  f287 := Tryd.func121.trans (congrArg some (by kernel_rfl))
  f316 := Tryd.func122.trans (congrArg some (by kernel_rfl))
  f317 := Tryd.func132.trans (congrArg some (by kernel_rfl))
  f318 := Tryd.func134.trans (congrArg some (by kernel_rfl))
  f319 := Tryd.func135.trans (congrArg some (by kernel_rfl))
  f320 := Tryd.func136.trans (congrArg some (by kernel_rfl))
  f321 := Tryd.func124.trans (congrArg some (by kernel_rfl))
  f322 := Tryd.func125.trans (congrArg some (by kernel_rfl))
  f337 := Tryd.func137.trans (congrArg some (by kernel_rfl))
  f338 := Tryd.func138.trans (congrArg some (by kernel_rfl))
  t0 := Tryd.underlying0
  a0 := Tryd.isAgg0
  z0 := Tryd.sizeOf0
  v0 := Tryd.zeroValue0
  t2 := Tryd.underlying2
  a2 := Tryd.isAgg2
  z2 := Tryd.sizeOf2
  v2 := Tryd.zeroValue2
  t3 := Tryd.underlying3
  a3 := Tryd.isAgg3
  z3 := Tryd.sizeOf3
  v3 := Tryd.zeroValue3
  t4 := Tryd.underlying4
  a4 := Tryd.isAgg4
  z4 := Tryd.sizeOf4
  v4 := Tryd.zeroValue4
  t5 := Tryd.underlying5
  a5 := Tryd.isAgg5
  z5 := Tryd.sizeOf5
  v5 := Tryd.zeroValue5
  t9 := Tryd.underlying9
  a9 := Tryd.isAgg9
  z9 := Tryd.sizeOf9
  v9 := Tryd.zeroValue9
  t20 := Tryd.underlying20
  a20 := Tryd.isAgg20
  z20 := Tryd.sizeOf20
  v20 := Tryd.zeroValue20
  t21 := Tryd.underlying21
  a21 := Tryd.isAgg21
  z21 := Tryd.sizeOf21
  v21 := Tryd.zeroValue21
  t37 := Tryd.underlying77
  a37 := Tryd.isAgg77
  z37 := Tryd.sizeOf77
  v37 := Tryd.zeroValue77
  t46 := Tryd.underlying161
  a46 := Tryd.isAgg161
  z46 := Tryd.sizeOf161
  v46 := Tryd.zeroValue161
  t51 := Tryd.underlying160
  a51 := Tryd.isAgg160
  z51 := Tryd.sizeOf160
  v51 := Tryd.zeroValue160
  t53 := Tryd.underlying64
  a53 := Tryd.isAgg64
  z53 := Tryd.sizeOf64
  v53 := Tryd.zeroValue64
  t75 := Tryd.underlying74
  a75 := Tryd.isAgg74
  z75 := Tryd.sizeOf74
  v75 := Tryd.zeroValue74
  t76 := Tryd.underlying75
  a76 := Tryd.isAgg75
  z76 := Tryd.sizeOf75
  v76 := Tryd.zeroValue75
  t85 := Tryd.underlying163
  a85 := Tryd.isAgg163
  z85 := Tryd.sizeOf163
  v85 := Tryd.zeroValue163
  t127 := Tryd.underlying174
  a127 := Tryd.isAgg174
  z127 := Tryd.sizeOf174
  v127 := Tryd.zeroValue174
  t143 := Tryd.underlying132
  a143 := Tryd.isAgg132
  z143 := Tryd.sizeOf132
  v143 := Tryd.zeroValue132
  t145 := Tryd.underlying134
  a145 := Tryd.isAgg134
  z145 := Tryd.sizeOf134
  v145 := Tryd.zeroValue134
  t167 := Tryd.underlying162
  a167 := Tryd.isAgg162
  z167 := Tryd.sizeOf162
  v167 := Tryd.zeroValue162
  t168 := Tryd.underlying165
  a168 := Tryd.isAgg165
  z168 := Tryd.sizeOf165
  v168 := Tryd.zeroValue165
  t171 := Tryd.underlying176
  a171 := Tryd.isAgg176
  z171 := Tryd.sizeOf176
  v171 := Tryd.zeroValue176
  t173 := Tryd.underlying179
  a173 := Tryd.isAgg179
  z173 := Tryd.sizeOf179
  v173 := Tryd.zeroValue179
  t175 := Tryd.underlying169
  a175 := Tryd.isAgg169
  z175 := Tryd.sizeOf169
  v175 := Tryd.zeroValue169
  t210 := Tryd.underlying172
  a210 := Tryd.isAgg172
  z210 := Tryd.sizeOf172
  v210 := Tryd.zeroValue172
  t212 := Tryd.underlying182
  a212 := Tryd.isAgg182
  z212 := Tryd.sizeOf182
  v212 := Tryd.zeroValue182
  t213 := Tryd.underlying183
  a213 := Tryd.isAgg183
  z213 := Tryd.sizeOf183
  t232 := Tryd.underlying186
  a232 := Tryd.isAgg186
  z232 := Tryd.sizeOf186
  v232 := Tryd.zeroValue186
  t233 := Tryd.underlying122
  a233 := Tryd.isAgg122
  z233 := Tryd.sizeOf122
  v233 := Tryd.zeroValue122
  g15 := by kernel_rfl
  g16 := by kernel_rfl
  g17 := by kernel_rfl
  g18 := by kernel_rfl
  g19 := by kernel_rfl
  t80 := Tryd.underlying187
  a80 := Tryd.isAgg187
  z80 := Tryd.sizeOf187
  v80 := Tryd.zeroValue187
  i0 := by kernel_rfl
  i2 := by kernel_rfl
  i3 := by kernel_rfl
  i4 := by kernel_rfl
  i5 := by kernel_rfl
  i9 := by kernel_rfl
  i20 := by kernel_rfl
  i21 := by kernel_rfl
  i37 := by kernel_rfl
  i46 := by kernel_rfl
  i51 := by kernel_rfl
  i53 := by kernel_rfl
  i75 := by kernel_rfl
  i76 := by kernel_rfl
  i80 := by kernel_rfl
  i85 := by kernel_rfl
  i127 := by kernel_rfl
  i143 := by kernel_rfl
  i145 := by kernel_rfl
  i167 := by kernel_rfl
  i168 := by kernel_rfl
  i171 := by kernel_rfl
  i173 := by kernel_rfl
  i175 := by kernel_rfl
  i210 := by kernel_rfl
  i212 := by kernel_rfl
  i232 := by kernel_rfl
  i233 := by kernel_rfl
  m15 := by kernel_rfl
  m16 := by kernel_rfl
  m17 := by kernel_rfl
  m18 := by kernel_rfl
  m19 := by kernel_rfl
  c0 := by kernel_rfl
  c2 := by kernel_rfl
  c3 := by kernel_rfl
  c4 := by kernel_rfl
  c5 := by kernel_rfl
  c9 := by kernel_rfl
  c20 := by kernel_rfl
  c21 := by kernel_rfl
  c37 := by kernel_rfl
  c46 := by kernel_rfl
  c51 := by kernel_rfl
  c53 := by kernel_rfl
  c75 := by kernel_rfl
  c76 := by kernel_rfl
  c80 := by kernel_rfl
  c85 := by kernel_rfl
  c127 := by kernel_rfl
  c143 := by kernel_rfl
  c145 := by kernel_rfl
  c167 := by kernel_rfl
  c168 := by kernel_rfl
  c171 := by kernel_rfl
  c173 := by kernel_rfl
  c175 := by kernel_rfl
  c210 := by kernel_rfl
  c212 := by kernel_rfl
  c213 := by kernel_rfl
  c232 := by kernel_rfl
  c233 := by kernel_rfl }
open Go.RowKit in
/-- strconv.Atoi, AT EVERY STRING OF AT MOST 18 BYTES THAT IS NO DECIMAL NUMERAL (the empty one too): 0, AND AN ERROR THAT IS NOT nil: a *NumError in a new block N: {Func: "Atoi", Num: s's bytes, Err: what the variable ErrSyntax holds}. Of what was there nothing has turned. (LAID: no walk: one application.) -/
theorem Tryd.strconv_Atoi_err (s : ByteArray) (hl : s.size ≤ 18) (h : Lib.atoi s.data.toList = none) (ev : Value) (w : World) (hv : w.cell? ⟨14, 0, none⟩ = some ev) (hev : ev = .nilIface ∨ ∃ te pe, ev = .iface te pe) :
    Calls Tryd.prog 100 #[.string s] w fun e w' => ∃ N, e = .returned (.tuple #[.int .i64 0, .iface 165 (.pointer (some ⟨N, 0, none⟩))]) ∧ w.heap.size ≤ N ∧ w'.heap[N]? = some (.cells #[.string ⟨#[65, 116, 111, 105]⟩, .string s, ev] 172 (0, 0)) ∧ Below w.heap.size w w' := Any.strconv_Atoi_err Tryd.laysC172 s hl h ev w hv hev
open Go.RowKit in
theorem Tryd.strconv_Atoi_err_var (s : ByteArray) (hl : s.size ≤ 18) (h : Lib.atoi s.data.toList = none) (tp : TypeId) (p : Value) (w : World) (hvar : w.var? Tryd.prog "strconv.ErrSyntax" = some #[.iface tp p]) :
    Calls Tryd.prog 100 #[.string s] w fun e w' => ∃ N, e = .returned (.tuple #[.int .i64 0, .iface 165 (.pointer (some ⟨N, 0, none⟩))]) ∧ w.heap.size ≤ N ∧ w'.heap[N]? = some (.cells #[.string ⟨#[65, 116, 111, 105]⟩, .string s, .iface tp p] 172 (0, 0)) ∧ Below w.heap.size w w' := Any.strconv_Atoi_err_var Tryd.laysC172 s hl h tp p w hvar
def Tryd.laysBin33_ren : Go.Shelf.Ren := ⟨fun | 33 => 108 | n => n, fun | 25 => 153 | 22 => 77 | 33 => 64 | 0 => 0 | 5 => 5 | 45 => 161 | n => n, fun | n => n⟩
theorem Tryd.laysBin33 : Go.Proofs.LaysBin.n33 Tryd.prog Tryd.laysBin33_ren := {
  mixed := by kernel_rfl
  f33 := Tryd.func108.trans (congrArg some (by kernel_rfl))
  t0 := Tryd.underlying0
  a0 := Tryd.isAgg0
  z0 := Tryd.sizeOf0
  v0 := Tryd.zeroValue0
  i0 := by kernel_rfl
  t5 := Tryd.underlying5
  a5 := Tryd.isAgg5
  z5 := Tryd.sizeOf5
  v5 := Tryd.zeroValue5
  i5 := by kernel_rfl
  t22 := Tryd.underlying77
  a22 := Tryd.isAgg77
  z22 := Tryd.sizeOf77
  v22 := Tryd.zeroValue77
  i22 := by kernel_rfl
  t25 := Tryd.underlying153
  a25 := Tryd.isAgg153
  z25 := Tryd.sizeOf153
  v25 := Tryd.zeroValue153
  i25 := by kernel_rfl
  t33 := Tryd.underlying64
  a33 := Tryd.isAgg64
  z33 := Tryd.sizeOf64
  v33 := Tryd.zeroValue64
  i33 := by kernel_rfl
  t45 := Tryd.underlying161
  a45 := Tryd.isAgg161
  z45 := Tryd.sizeOf161
  v45 := Tryd.zeroValue161
  i45 := by kernel_rfl }
open Go.RowKit in
/-- binary.LittleEndian.Uint64: "Uint64 returns the uint64 representation of b[0:8].": THE NUMBER THAT THE FIRST 8 BYTES SPELL, the least byte first ('Lib.leNat'). Of what was there nothing has turned (the receiver, an empty struct, is laid in a new block without cells; the statement's order is drawn). (LAID: no walk: one application.) -/
theorem Tryd.binary_LE_Uint64 (g o n c : Nat) (b0 b1 b2 b3 b4 b5 b6 b7 : UInt8) (w : World) (hn : 8 ≤ n) (c0 : w.cell? ⟨g, o, none⟩ = some (.int .u8 b0.toNat)) (c1 : w.cell? ⟨g, o + 1, none⟩ = some (.int .u8 b1.toNat)) (c2 : w.cell? ⟨g, o + 2, none⟩ = some (.int .u8 b2.toNat)) (c3 : w.cell? ⟨g, o + 3, none⟩ = some (.int .u8 b3.toNat)) (c4 : w.cell? ⟨g, o + 4, none⟩ = some (.int .u8 b4.toNat)) (c5 : w.cell? ⟨g, o + 5, none⟩ = some (.int .u8 b5.toNat)) (c6 : w.cell? ⟨g, o + 6, none⟩ = some (.int .u8 b6.toNat)) (c7 : w.cell? ⟨g, o + 7, none⟩ = some (.int .u8 b7.toNat)) :
    Calls Tryd.prog 108 #[.agg #[], .slice (some ⟨g, o, none⟩) n c] w fun e w' => e = .returned (.int .u64 (Lib.leNat [b0, b1, b2, b3, b4, b5, b6, b7])) ∧ Below w.heap.size w w' := Any.binary_LE_Uint64 Tryd.laysBin33 g o n c b0 b1 b2 b3 b4 b5 b6 b7 w hn c0 c1 c2 c3 c4 c5 c6 c7
open Go.RowKit in
/-- binary.LittleEndian.Uint64, b SHORTER THAN 8: IT PANICS: Go's 'runtime error: index out of range [7] with length n' ('Lib.boundsPanicked'). THE WORLD: the receiver's new block without cells, and the draw of the panic's flag. (LAID: no walk: one application.) -/
theorem Tryd.binary_LE_Uint64_panics (ao : Option Addr) (n c : Nat) (w : World) (hn : n < 8) (hnil : ao = none → n = 0) :
    Calls Tryd.prog 108 #[.agg #[], .slice ao n c] w fun e w' => Lib.boundsPanicked Tryd.prog 7 n e ∧ w' = (w.alloc (.cells #[] 153)).drew := Any.binary_LE_Uint64_panics Tryd.laysBin33 ao n c w hn hnil
def Tryd.lays321_ren : Go.Shelf.Ren := ⟨fun | 321 => 124 | n => n, fun | 5 => 5 | n => n, fun | n => n⟩
theorem Tryd.lays321 : Go.Proofs.Lays.n321 Tryd.prog Tryd.lays321_ren := {
  mixed := by kernel_rfl
  f321 := Tryd.func124.trans (congrArg some (by kernel_rfl))
  t5 := Tryd.underlying5
  a5 := Tryd.isAgg5
  z5 := Tryd.sizeOf5
  v5 := Tryd.zeroValue5 }
open Go.RowKit in
/-- internal/strconv.lower: 'c | ('x' - 'X')': the bit 32 set. The world is as it was. (LAID: no walk: one application.) -/
theorem Tryd.internal_strconv_lower (c : Int) (w : World) :
    Calls Tryd.prog 124 #[.int .u8 c] w fun e w' => e = .returned (.int .u8 (bits .or .u8 c 32)) ∧ w' = w := Any.internal_strconv_lower Tryd.lays321 c w
def Tryd.lays287_ren : Go.Shelf.Ren := ⟨fun | 287 => 121 | 321 => 124 | 322 => 125 | n => n, fun | 9 => 9 | 3 => 3 | 53 => 64 | 75 => 74 | 4 => 4 | 167 => 162 | 5 => 5 | 46 => 161 | 37 => 77 | 0 => 0 | 21 => 21 | 80 => 187 | n => n, fun | n => n⟩
theorem Tryd.lays287 : Go.Proofs.Lays.n287 Tryd.prog Tryd.lays287_ren := {
  mixed := by kernel_rfl
  f287 := Tryd.func121.trans (congrArg some (by kernel_rfl))
  f321 := Tryd.func124.trans (congrArg some (by kernel_rfl))
  f322 := Tryd.func125.trans (congrArg some (by kernel_rfl))
  t0 := Tryd.underlying0
  a0 := Tryd.isAgg0
  z0 := Tryd.sizeOf0
  v0 := Tryd.zeroValue0
  t3 := Tryd.underlying3
  a3 := Tryd.isAgg3
  z3 := Tryd.sizeOf3
  v3 := Tryd.zeroValue3
  t4 := Tryd.underlying4
  a4 := Tryd.isAgg4
  z4 := Tryd.sizeOf4
  v4 := Tryd.zeroValue4
  t5 := Tryd.underlying5
  a5 := Tryd.isAgg5
  z5 := Tryd.sizeOf5
  v5 := Tryd.zeroValue5
  t9 := Tryd.underlying9
  a9 := Tryd.isAgg9
  z9 := Tryd.sizeOf9
  v9 := Tryd.zeroValue9
  t21 := Tryd.underlying21
  a21 := Tryd.isAgg21
  z21 := Tryd.sizeOf21
  v21 := Tryd.zeroValue21
  t37 := Tryd.underlying77
  a37 := Tryd.isAgg77
  z37 := Tryd.sizeOf77
  v37 := Tryd.zeroValue77
  t46 := Tryd.underlying161
  a46 := Tryd.isAgg161
  z46 := Tryd.sizeOf161
  v46 := Tryd.zeroValue161
  t53 := Tryd.underlying64
  a53 := Tryd.isAgg64
  z53 := Tryd.sizeOf64
  v53 := Tryd.zeroValue64
  t75 := Tryd.underlying74
  a75 := Tryd.isAgg74
  z75 := Tryd.sizeOf74
  v75 := Tryd.zeroValue74
  t167 := Tryd.underlying162
  a167 := Tryd.isAgg162
  z167 := Tryd.sizeOf162
  v167 := Tryd.zeroValue162 }
open Go.RowKit in
/-- internal/strconv.ParseUint(s, 10, 0), s NOT EMPTY: 'Lib.parseUint10 0' OF ITS BYTES: the number; or (0, ErrSyntax); or (the greatest uint64, ErrRange). The world behind the call: the one new row that '[]byte(s)' lays. (LAID: no walk: one application.) -/
theorem Tryd.internal_strconv_ParseUint_10 (t : ByteArray) (hne : t.size ≠ 0) (hmax : t.size ≤ 9223372036854775806) (w : World) :
    Calls Tryd.prog 121 #[.string t, .int .i64 10, .int .i64 0] w fun e w' => e = .returned (Lib.uintTuple 162 (Lib.parseUint10 0 t.data.toList)) ∧ w' = Lib.bytesWorld w 5 t := Any.internal_strconv_ParseUint_10 Tryd.lays287 t hne hmax w
open Go.RowKit in
/-- internal/strconv.ParseUint("", 10, 0): (0, ErrSyntax). The world is as it was. (LAID: no walk: one application.) -/
theorem Tryd.internal_strconv_ParseUint_10_empty (w : World) :
    Calls Tryd.prog 121 #[.string ⟨#[]⟩, .int .i64 10, .int .i64 0] w fun e w' => e = .returned (Lib.uintTuple 162 .syntax) ∧ w' = w := Any.internal_strconv_ParseUint_10_empty Tryd.lays287 w
open Go.RowKit in
/-- internal/strconv.ParseUint(s, 10, 0): 'Lib.parseMag' OF ITS BYTES. The world: as it was (the empty string), or with the one new row that '[]byte(s)' lays. (LAID: no walk: one application.) -/
theorem Tryd.internal_strconv_ParseUint_10_any (t : ByteArray) (hmax : t.size ≤ 9223372036854775806) (w : World) :
    Calls Tryd.prog 121 #[.string t, .int .i64 10, .int .i64 0] w fun e w' => e = .returned (Lib.uintTuple 162 (Lib.parseMag t.data.toList)) ∧ (w' = w ∨ w' = Lib.bytesWorld w 5 t) := Any.internal_strconv_ParseUint_10_any Tryd.lays287 t hmax w
def Tryd.laysC247_ren : Go.Shelf.Ren := ⟨fun | 247 => 115 | 287 => 121 | 321 => 124 | 322 => 125 | n => n, fun | 9 => 9 | 3 => 3 | 2 => 2 | 75 => 74 | 4 => 4 | 167 => 162 | 5 => 5 | 53 => 64 | 175 => 169 | 46 => 161 | 37 => 77 | 0 => 0 | 21 => 21 | 80 => 187 | n => n, fun | n => n⟩
theorem Tryd.laysC247 : Go.Proofs.LaysC.n247 Tryd.prog Tryd.laysC247_ren := {
  mixed := by kernel_rfl
  f247 := Tryd.func115.trans (congrArg some (by kernel_rfl))
  f287 := Tryd.func121.trans (congrArg some (by kernel_rfl))
  f321 := Tryd.func124.trans (congrArg some (by kernel_rfl))
  f322 := Tryd.func125.trans (congrArg some (by kernel_rfl))
  t0 := Tryd.underlying0
  a0 := Tryd.isAgg0
  z0 := Tryd.sizeOf0
  v0 := Tryd.zeroValue0
  t2 := Tryd.underlying2
  a2 := Tryd.isAgg2
  z2 := Tryd.sizeOf2
  v2 := Tryd.zeroValue2
  t3 := Tryd.underlying3
  a3 := Tryd.isAgg3
  z3 := Tryd.sizeOf3
  v3 := Tryd.zeroValue3
  t4 := Tryd.underlying4
  a4 := Tryd.isAgg4
  z4 := Tryd.sizeOf4
  v4 := Tryd.zeroValue4
  t5 := Tryd.underlying5
  a5 := Tryd.isAgg5
  z5 := Tryd.sizeOf5
  v5 := Tryd.zeroValue5
  t9 := Tryd.underlying9
  a9 := Tryd.isAgg9
  z9 := Tryd.sizeOf9
  v9 := Tryd.zeroValue9
  t21 := Tryd.underlying21
  a21 := Tryd.isAgg21
  z21 := Tryd.sizeOf21
  v21 := Tryd.zeroValue21
  t37 := Tryd.underlying77
  a37 := Tryd.isAgg77
  z37 := Tryd.sizeOf77
  v37 := Tryd.zeroValue77
  t46 := Tryd.underlying161
  a46 := Tryd.isAgg161
  z46 := Tryd.sizeOf161
  v46 := Tryd.zeroValue161
  t53 := Tryd.underlying64
  a53 := Tryd.isAgg64
  z53 := Tryd.sizeOf64
  v53 := Tryd.zeroValue64
  t75 := Tryd.underlying74
  a75 := Tryd.isAgg74
  z75 := Tryd.sizeOf74
  v75 := Tryd.zeroValue74
  t167 := Tryd.underlying162
  a167 := Tryd.isAgg162
  z167 := Tryd.sizeOf162
  v167 := Tryd.zeroValue162
  t175 := Tryd.underlying169
  a175 := Tryd.isAgg169
  z175 := Tryd.sizeOf169
  v175 := Tryd.zeroValue169
  t80 := Tryd.underlying187
  a80 := Tryd.isAgg187
  z80 := Tryd.sizeOf187
  v80 := Tryd.zeroValue187
  i0 := by kernel_rfl
  i2 := by kernel_rfl
  i3 := by kernel_rfl
  i4 := by kernel_rfl
  i5 := by kernel_rfl
  i9 := by kernel_rfl
  i21 := by kernel_rfl
  i37 := by kernel_rfl
  i46 := by kernel_rfl
  i53 := by kernel_rfl
  i75 := by kernel_rfl
  i80 := by kernel_rfl
  i167 := by kernel_rfl
  i175 := by kernel_rfl
  c0 := by kernel_rfl
  c2 := by kernel_rfl
  c3 := by kernel_rfl
  c4 := by kernel_rfl
  c5 := by kernel_rfl
  c9 := by kernel_rfl
  c21 := by kernel_rfl
  c37 := by kernel_rfl
  c46 := by kernel_rfl
  c53 := by kernel_rfl
  c75 := by kernel_rfl
  c80 := by kernel_rfl
  c167 := by kernel_rfl
  c175 := by kernel_rfl }
open Go.RowKit in
/-- internal/strconv.ParseInt(s, 10, 0), s NOT EMPTY: 'Lib.atoiAll' OF ITS BYTES: (the number, nil); (0, ErrSyntax); (the greatest or the least int64 by the sign, ErrRange). The world: as it was, or with the one new row that '[]byte(..)' lays. (LAID: no walk: one application.) -/
theorem Tryd.internal_strconv_ParseInt_10 (s : ByteArray) (hne : s.size ≠ 0) (hmax : s.size ≤ 9223372036854775806) (w : World) :
    Calls Tryd.prog 115 #[.string s, .int .i64 10, .int .i64 0] w fun e w' => e = .returned (Lib.intTuple 162 (Lib.atoiSat s.data.toList) (Lib.atoiAll s.data.toList)) ∧ (w' = w ∨ ∃ t, w' = Lib.bytesWorld w 5 t) := Any.internal_strconv_ParseInt_10 Tryd.laysC247 s hne hmax w
def Tryd.laysC244_ren : Go.Shelf.Ren := ⟨fun | 244 => 109 | 247 => 115 | 287 => 121 | 321 => 124 | 322 => 125 | n => n, fun | 9 => 9 | 3 => 3 | 75 => 74 | 4 => 4 | 5 => 5 | 167 => 162 | 37 => 77 | 0 => 0 | 85 => 163 | 2 => 2 | 53 => 64 | 175 => 169 | 46 => 161 | 21 => 21 | 80 => 187 | n => n, fun | n => n⟩
theorem Tryd.laysC244 : Go.Proofs.LaysC.n244 Tryd.prog Tryd.laysC244_ren := {
  mixed := by kernel_rfl
  f244 := Tryd.func109.trans (congrArg some (by kernel_rfl))
  f247 := Tryd.func115.trans (congrArg some (by kernel_rfl))
  f287 := Tryd.func121.trans (congrArg some (by kernel_rfl))
  f321 := Tryd.func124.trans (congrArg some (by kernel_rfl))
  f322 := Tryd.func125.trans (congrArg some (by kernel_rfl))
  t0 := Tryd.underlying0
  a0 := Tryd.isAgg0
  z0 := Tryd.sizeOf0
  v0 := Tryd.zeroValue0
  t2 := Tryd.underlying2
  a2 := Tryd.isAgg2
  z2 := Tryd.sizeOf2
  v2 := Tryd.zeroValue2
  t3 := Tryd.underlying3
  a3 := Tryd.isAgg3
  z3 := Tryd.sizeOf3
  v3 := Tryd.zeroValue3
  t4 := Tryd.underlying4
  a4 := Tryd.isAgg4
  z4 := Tryd.sizeOf4
  v4 := Tryd.zeroValue4
  t5 := Tryd.underlying5
  a5 := Tryd.isAgg5
  z5 := Tryd.sizeOf5
  v5 := Tryd.zeroValue5
  t9 := Tryd.underlying9
  a9 := Tryd.isAgg9
  z9 := Tryd.sizeOf9
  v9 := Tryd.zeroValue9
  t21 := Tryd.underlying21
  a21 := Tryd.isAgg21
  z21 := Tryd.sizeOf21
  v21 := Tryd.zeroValue21
  t37 := Tryd.underlying77
  a37 := Tryd.isAgg77
  z37 := Tryd.sizeOf77
  v37 := Tryd.zeroValue77
  t46 := Tryd.underlying161
  a46 := Tryd.isAgg161
  z46 := Tryd.sizeOf161
  v46 := Tryd.zeroValue161
  t53 := Tryd.underlying64
  a53 := Tryd.isAgg64
  z53 := Tryd.sizeOf64
  v53 := Tryd.zeroValue64
  t75 := Tryd.underlying74
  a75 := Tryd.isAgg74
  z75 := Tryd.sizeOf74
  v75 := Tryd.zeroValue74
  t85 := Tryd.underlying163
  a85 := Tryd.isAgg163
  z85 := Tryd.sizeOf163
  v85 := Tryd.zeroValue163
  t167 := Tryd.underlying162
  a167 := Tryd.isAgg162
  z167 := Tryd.sizeOf162
  v167 := Tryd.zeroValue162
  t175 := Tryd.underlying169
  a175 := Tryd.isAgg169
  z175 := Tryd.sizeOf169
  v175 := Tryd.zeroValue169
  t80 := Tryd.underlying187
  a80 := Tryd.isAgg187
  z80 := Tryd.sizeOf187
  v80 := Tryd.zeroValue187
  i0 := by kernel_rfl
  i2 := by kernel_rfl
  i3 := by kernel_rfl
  i4 := by kernel_rfl
  i5 := by kernel_rfl
  i9 := by kernel_rfl
  i21 := by kernel_rfl
  i37 := by kernel_rfl
  i46 := by kernel_rfl
  i53 := by kernel_rfl
  i75 := by kernel_rfl
  i80 := by kernel_rfl
  i85 := by kernel_rfl
  i167 := by kernel_rfl
  i175 := by kernel_rfl
  c0 := by kernel_rfl
  c2 := by kernel_rfl
  c3 := by kernel_rfl
  c4 := by kernel_rfl
  c5 := by kernel_rfl
  c9 := by kernel_rfl
  c21 := by kernel_rfl
  c37 := by kernel_rfl
  c46 := by kernel_rfl
  c53 := by kernel_rfl
  c75 := by kernel_rfl
  c80 := by kernel_rfl
  c85 := by kernel_rfl
  c167 := by kernel_rfl
  c175 := by kernel_rfl }
open Go.RowKit in
/-- internal/strconv.Atoi, AT EVERY STRING OF 19 BYTES OR MORE: 'Lib.atoiAll' OF ITS BYTES: (the number, nil); (0, ErrSyntax); (the greatest or the least int by the sign, ErrRange). (LAID: no walk: one application.) -/
theorem Tryd.internal_strconv_Atoi_long (s : ByteArray) (h19 : 19 ≤ s.size) (hmax : s.size ≤ 9223372036854775806) (w : World) :
    Calls Tryd.prog 109 #[.string s] w fun e w' => e = .returned (Lib.intTuple 162 (Lib.atoiSat s.data.toList) (Lib.atoiAll s.data.toList)) ∧ (w' = w ∨ ∃ t, w' = Lib.bytesWorld w 5 t) := Any.internal_strconv_Atoi_long Tryd.laysC244 s h19 hmax w
open Go.RowKit in
/-- internal/strconv.Atoi, AT EVERY STRING: 'Lib.atoiAll' OF ITS BYTES: (the number, nil); (0, ErrSyntax); (the greatest or the least int by the sign, ErrRange). The world: as it was, or with the one new row that '[]byte(..)' lays. (LAID: no walk: one application.) -/
theorem Tryd.internal_strconv_Atoi_all (s : ByteArray) (hmax : s.size ≤ 9223372036854775806) (w : World) :
    Calls Tryd.prog 109 #[.string s] w fun e w' => e = .returned (Lib.intTuple 162 (Lib.atoiSat s.data.toList) (Lib.atoiAll s.data.toList)) ∧ (w' = w ∨ ∃ t, w' = Lib.bytesWorld w 5 t) := Any.internal_strconv_Atoi_all Tryd.laysC244 s hmax w
def Tryd.laysM280_ren : Go.Shelf.Ren := ⟨fun | 280 => 117 | 316 => 122 | n => n, fun | 9 => 9 | 168 => 165 | 75 => 74 | 210 => 172 | 3 => 3 | 4 => 4 | 37 => 77 | 0 => 0 | 127 => 174 | 80 => 187 | 5 => 5 | n => n, fun | 16 => 15 | n => n⟩
theorem Tryd.laysM280 : Go.Proofs.LaysM.n280 Tryd.prog Tryd.laysM280_ren := {
  mixed := by kernel_rfl
  f280 := Tryd.func117.trans (congrArg some (by kernel_rfl))
  f316 := Tryd.func122.trans (congrArg some (by kernel_rfl))
  t0 := Tryd.underlying0
  a0 := Tryd.isAgg0
  z0 := Tryd.sizeOf0
  v0 := Tryd.zeroValue0
  t3 := Tryd.underlying3
  a3 := Tryd.isAgg3
  z3 := Tryd.sizeOf3
  v3 := Tryd.zeroValue3
  t4 := Tryd.underlying4
  a4 := Tryd.isAgg4
  z4 := Tryd.sizeOf4
  v4 := Tryd.zeroValue4
  t9 := Tryd.underlying9
  a9 := Tryd.isAgg9
  z9 := Tryd.sizeOf9
  v9 := Tryd.zeroValue9
  t37 := Tryd.underlying77
  a37 := Tryd.isAgg77
  z37 := Tryd.sizeOf77
  v37 := Tryd.zeroValue77
  t75 := Tryd.underlying74
  a75 := Tryd.isAgg74
  z75 := Tryd.sizeOf74
  v75 := Tryd.zeroValue74
  t127 := Tryd.underlying174
  a127 := Tryd.isAgg174
  z127 := Tryd.sizeOf174
  v127 := Tryd.zeroValue174
  t168 := Tryd.underlying165
  a168 := Tryd.isAgg165
  z168 := Tryd.sizeOf165
  v168 := Tryd.zeroValue165
  t210 := Tryd.underlying172
  a210 := Tryd.isAgg172
  z210 := Tryd.sizeOf172
  v210 := Tryd.zeroValue172
  g16 := by kernel_rfl
  t5 := Tryd.underlying5
  a5 := Tryd.isAgg5
  z5 := Tryd.sizeOf5
  v5 := Tryd.zeroValue5
  t80 := Tryd.underlying187
  a80 := Tryd.isAgg187
  z80 := Tryd.sizeOf187
  v80 := Tryd.zeroValue187
  i0 := by kernel_rfl
  i3 := by kernel_rfl
  i4 := by kernel_rfl
  i5 := by kernel_rfl
  i9 := by kernel_rfl
  i37 := by kernel_rfl
  i75 := by kernel_rfl
  i80 := by kernel_rfl
  i127 := by kernel_rfl
  i168 := by kernel_rfl
  i210 := by kernel_rfl
  m16 := by kernel_rfl }
open Go.RowKit in
/-- strconv.rangeError: '&NumError{fn, stringslite.Clone(str), ErrRange}': A POINTER TO A NEW BLOCK that holds fn, str's bytes, and what the variable ErrRange holds. Of what was there nothing has turned. (LAID: no walk: one application.) -/
theorem Tryd.strconv_rangeError (fn s : ByteArray) (ev : Value) (w : World) (hlim : s.size ≤ 281474976710656) (hv : w.cell? ⟨15, 0, none⟩ = some ev) (hev : ev = .nilIface ∨ ∃ te pe, ev = .iface te pe) :
    Calls Tryd.prog 117 #[.string fn, .string s] w fun e w' => ∃ N, e = .returned (.pointer (some ⟨N, 0, none⟩)) ∧ w.heap.size ≤ N ∧ w'.heap[N]? = some (.cells #[.string fn, .string s, ev] 172 (0, 0)) ∧ Below w.heap.size w w' := Any.strconv_rangeError Tryd.laysM280 fn s ev w hlim hv hev
open Go.RowKit in
/-- strconv.toError, at the inner package's ErrRange: 'rangeError(fn, s)' as an error: A *NumError IN A NEW BLOCK. (LAID: no walk: one application.) -/
theorem Tryd.strconv_toError_range (fn s : ByteArray) (base bits : Int) (ev : Value) (w : World) (hlim : s.size ≤ 281474976710656) (hv : w.cell? ⟨15, 0, none⟩ = some ev) (hev : ev = .nilIface ∨ ∃ te pe, ev = .iface te pe) :
    Calls Tryd.prog 110 #[.string fn, .string s, .int .i64 base, .int .i64 bits, .iface 162 (.int .i64 1)] w fun e w' => ∃ N, e = .returned (.iface 165 (.pointer (some ⟨N, 0, none⟩))) ∧ w.heap.size ≤ N ∧ w'.heap[N]? = some (.cells #[.string fn, .string s, ev] 172 (0, 0)) ∧ Below w.heap.size w w' := Any.strconv_toError_range Tryd.laysC245 fn s base bits ev w hlim hv hev
open Go.RowKit in
/-- strconv.Atoi, AT EVERY STRING THAT SPELLS AN int ('Lib.atoiAll .. = .ok v'; of whatever length: leading zeros count): v, AND NO ERROR. The world: as it was, or with the one new row that '[]byte(..)' lays. (LAID: no walk: one application.) -/
theorem Tryd.strconv_Atoi_ok (s : ByteArray) (hmax : s.size ≤ 9223372036854775806) (v : Int) (h : Lib.atoiAll s.data.toList = .ok v) (w : World) :
    Calls Tryd.prog 100 #[.string s] w fun e w' => e = .returned (.tuple #[.int .i64 v, .nilIface]) ∧ (w' = w ∨ ∃ t, w' = Lib.bytesWorld w 5 t) := Any.strconv_Atoi_ok Tryd.laysC172 s hmax v h w
open Go.RowKit in
/-- strconv.Atoi, AT EVERY NUMERAL THAT NO int HOLDS ('.range'): THE GREATEST OR THE LEAST int, BY THE SIGN ('Lib.atoiSat'), AND AN ERROR THAT IS NOT nil: a *NumError in a new block N: {Func: "Atoi", Num: s's bytes, Err: what the variable ErrRange holds}. Of what was there nothing has turned. (LAID: no walk: one application.) -/
theorem Tryd.strconv_Atoi_range (s : ByteArray) (hlim : s.size ≤ 281474976710656) (h : Lib.atoiAll s.data.toList = .range) (ev : Value) (w : World) (hv : w.cell? ⟨15, 0, none⟩ = some ev) (hev : ev = .nilIface ∨ ∃ te pe, ev = .iface te pe) :
    Calls Tryd.prog 100 #[.string s] w fun e w' => ∃ N, e = .returned (.tuple #[.int .i64 (Lib.atoiSat s.data.toList), .iface 165 (.pointer (some ⟨N, 0, none⟩))]) ∧ w.heap.size ≤ N ∧ w'.heap[N]? = some (.cells #[.string ⟨#[65, 116, 111, 105]⟩, .string s, ev] 172 (0, 0)) ∧ Below w.heap.size w w' := Any.strconv_Atoi_range Tryd.laysC172 s hlim h ev w hv hev
open Go.RowKit in
theorem Tryd.strconv_Atoi_range_var (s : ByteArray) (hlim : s.size ≤ 281474976710656) (h : Lib.atoiAll s.data.toList = .range) (tp : TypeId) (p : Value) (w : World) (hvar : w.var? Tryd.prog "strconv.ErrRange" = some #[.iface tp p]) :
    Calls Tryd.prog 100 #[.string s] w fun e w' => ∃ N, e = .returned (.tuple #[.int .i64 (Lib.atoiSat s.data.toList), .iface 165 (.pointer (some ⟨N, 0, none⟩))]) ∧ w.heap.size ≤ N ∧ w'.heap[N]? = some (.cells #[.string ⟨#[65, 116, 111, 105]⟩, .string s, .iface tp p] 172 (0, 0)) ∧ Below w.heap.size w w' := Any.strconv_Atoi_range_var Tryd.laysC172 s hlim h tp p w hvar
open Go.RowKit in
/-- internal/strconv.ParseUint("", base, bitSize): (0, ErrSyntax): the first test of the text. The world is as it was. (LAID: no walk: one application.) -/
theorem Tryd.internal_strconv_ParseUint_empty (base bits : Int) (w : World) :
    Calls Tryd.prog 121 #[.string ⟨#[]⟩, .int .i64 base, .int .i64 bits] w fun e w' => e = .returned (.tuple #[.int .u64 0, .iface 162 (.int .i64 2)]) ∧ w' = w := Any.internal_strconv_ParseUint_empty Tryd.lays287 base bits w
open Go.RowKit in
/-- internal/strconv.ParseUint(s, 10, 64), s NOT EMPTY: 'Lib.parseUint10 0' OF ITS BYTES: the number; or (0, ErrSyntax); or (the greatest uint64, ErrRange). The world behind the call: the one new row that '[]byte(s)' lays. (LAID: no walk: one application.) -/
theorem Tryd.internal_strconv_ParseUint_10_b64 (t : ByteArray) (hne : t.size ≠ 0) (hmax : t.size ≤ 9223372036854775806) (w : World) :
    Calls Tryd.prog 121 #[.string t, .int .i64 10, .int .i64 64] w fun e w' => e = .returned (Lib.uintTuple 162 (Lib.parseUint10 0 t.data.toList)) ∧ w' = Lib.bytesWorld w 5 t := Any.internal_strconv_ParseUint_10_b64 Tryd.lays287 t hne hmax w
open Go.RowKit in
/-- internal/strconv.ParseUint(s, 10, 32), s NOT EMPTY: 'Lib.parseUintM 4294967295 0' OF ITS BYTES: the number; or (0, ErrSyntax); or (the greatest uint32, ErrRange). The world behind the call: the one new row that '[]byte(s)' lays. (LAID: no walk: one application.) -/
theorem Tryd.internal_strconv_ParseUint_10_b32 (t : ByteArray) (hne : t.size ≠ 0) (hmax : t.size ≤ 9223372036854775806) (w : World) :
    Calls Tryd.prog 121 #[.string t, .int .i64 10, .int .i64 32] w fun e w' => e = .returned (Lib.uintTupleM 162 4294967295 (Lib.parseUintM 4294967295 0 t.data.toList)) ∧ w' = Lib.bytesWorld w 5 t := Any.internal_strconv_ParseUint_10_b32 Tryd.lays287 t hne hmax w
open Go.RowKit in
/-- internal/strconv.ParseUint(s, 10, 16), s NOT EMPTY: 'Lib.parseUintM 65535 0' OF ITS BYTES: the number; or (0, ErrSyntax); or (the greatest uint16, ErrRange). The world behind the call: the one new row that '[]byte(s)' lays. (LAID: no walk: one application.) -/
theorem Tryd.internal_strconv_ParseUint_10_b16 (t : ByteArray) (hne : t.size ≠ 0) (hmax : t.size ≤ 9223372036854775806) (w : World) :
    Calls Tryd.prog 121 #[.string t, .int .i64 10, .int .i64 16] w fun e w' => e = .returned (Lib.uintTupleM 162 65535 (Lib.parseUintM 65535 0 t.data.toList)) ∧ w' = Lib.bytesWorld w 5 t := Any.internal_strconv_ParseUint_10_b16 Tryd.lays287 t hne hmax w
open Go.RowKit in
/-- internal/strconv.ParseUint(s, 10, 8), s NOT EMPTY: 'Lib.parseUintM 255 0' OF ITS BYTES: the number; or (0, ErrSyntax); or (the greatest uint8, ErrRange). The world behind the call: the one new row that '[]byte(s)' lays. (LAID: no walk: one application.) -/
theorem Tryd.internal_strconv_ParseUint_10_b8 (t : ByteArray) (hne : t.size ≠ 0) (hmax : t.size ≤ 9223372036854775806) (w : World) :
    Calls Tryd.prog 121 #[.string t, .int .i64 10, .int .i64 8] w fun e w' => e = .returned (Lib.uintTupleM 162 255 (Lib.parseUintM 255 0 t.data.toList)) ∧ w' = Lib.bytesWorld w 5 t := Any.internal_strconv_ParseUint_10_b8 Tryd.lays287 t hne hmax w
open Go.RowKit in
/-- internal/strconv.ParseUint(s, 10, 0): 'Lib.parseUintB 64' OF ITS BYTES. The world: as it was (the empty string), or with the one new row that '[]byte(s)' lays. (LAID: no walk: one application.) -/
theorem Tryd.internal_strconv_ParseUint_10_at0 (t : ByteArray) (hmax : t.size ≤ 9223372036854775806) (w : World) :
    Calls Tryd.prog 121 #[.string t, .int .i64 10, .int .i64 0] w fun e w' => e = .returned (Lib.uintTupleM 162 18446744073709551615 (Lib.parseUintB 64 t.data.toList)) ∧ (w' = w ∨ w' = Lib.bytesWorld w 5 t) := Any.internal_strconv_ParseUint_10_at0 Tryd.lays287 t hmax w
open Go.RowKit in
/-- internal/strconv.ParseUint(s, 10, 64): 'Lib.parseUintB 64' OF ITS BYTES. The world: as it was (the empty string), or with the one new row that '[]byte(s)' lays. (LAID: no walk: one application.) -/
theorem Tryd.internal_strconv_ParseUint_10_at64 (t : ByteArray) (hmax : t.size ≤ 9223372036854775806) (w : World) :
    Calls Tryd.prog 121 #[.string t, .int .i64 10, .int .i64 64] w fun e w' => e = .returned (Lib.uintTupleM 162 18446744073709551615 (Lib.parseUintB 64 t.data.toList)) ∧ (w' = w ∨ w' = Lib.bytesWorld w 5 t) := Any.internal_strconv_ParseUint_10_at64 Tryd.lays287 t hmax w
open Go.RowKit in
/-- internal/strconv.ParseUint(s, 10, 32): 'Lib.parseUintB 32' OF ITS BYTES. The world: as it was (the empty string), or with the one new row that '[]byte(s)' lays. (LAID: no walk: one application.) -/
theorem Tryd.internal_strconv_ParseUint_10_at32 (t : ByteArray) (hmax : t.size ≤ 9223372036854775806) (w : World) :
    Calls Tryd.prog 121 #[.string t, .int .i64 10, .int .i64 32] w fun e w' => e = .returned (Lib.uintTupleM 162 4294967295 (Lib.parseUintB 32 t.data.toList)) ∧ (w' = w ∨ w' = Lib.bytesWorld w 5 t) := Any.internal_strconv_ParseUint_10_at32 Tryd.lays287 t hmax w
open Go.RowKit in
/-- internal/strconv.ParseUint(s, 10, 16): 'Lib.parseUintB 16' OF ITS BYTES. The world: as it was (the empty string), or with the one new row that '[]byte(s)' lays. (LAID: no walk: one application.) -/
theorem Tryd.internal_strconv_ParseUint_10_at16 (t : ByteArray) (hmax : t.size ≤ 9223372036854775806) (w : World) :
    Calls Tryd.prog 121 #[.string t, .int .i64 10, .int .i64 16] w fun e w' => e = .returned (Lib.uintTupleM 162 65535 (Lib.parseUintB 16 t.data.toList)) ∧ (w' = w ∨ w' = Lib.bytesWorld w 5 t) := Any.internal_strconv_ParseUint_10_at16 Tryd.lays287 t hmax w
open Go.RowKit in
/-- internal/strconv.ParseUint(s, 10, 8): 'Lib.parseUintB 8' OF ITS BYTES. The world: as it was (the empty string), or with the one new row that '[]byte(s)' lays. (LAID: no walk: one application.) -/
theorem Tryd.internal_strconv_ParseUint_10_at8 (t : ByteArray) (hmax : t.size ≤ 9223372036854775806) (w : World) :
    Calls Tryd.prog 121 #[.string t, .int .i64 10, .int .i64 8] w fun e w' => e = .returned (Lib.uintTupleM 162 255 (Lib.parseUintB 8 t.data.toList)) ∧ (w' = w ∨ w' = Lib.bytesWorld w 5 t) := Any.internal_strconv_ParseUint_10_at8 Tryd.lays287 t hmax w
open Go.RowKit in
/-- internal/strconv.ParseInt(s, 10, 64), s NOT EMPTY: 'Lib.parseIntB 64' OF ITS BYTES: (the number, nil); (0, ErrSyntax); (the greatest or the least int64 by the sign, ErrRange). The world: as it was, or with the one new row that '[]byte(..)' lays. (LAID: no walk: one application.) -/
theorem Tryd.internal_strconv_ParseInt_10_at64 (s : ByteArray) (hne : s.size ≠ 0) (hmax : s.size ≤ 9223372036854775806) (w : World) :
    Calls Tryd.prog 115 #[.string s, .int .i64 10, .int .i64 64] w fun e w' => e = .returned (Lib.intTuple 162 (Lib.intSat 64 s.data.toList) (Lib.parseIntB 64 s.data.toList)) ∧ (w' = w ∨ ∃ t, w' = Lib.bytesWorld w 5 t) := Any.internal_strconv_ParseInt_10_at64 Tryd.laysC247 s hne hmax w
open Go.RowKit in
/-- internal/strconv.ParseInt(s, 10, 32), s NOT EMPTY: 'Lib.parseIntB 32' OF ITS BYTES: (the number, nil); (0, ErrSyntax); (the greatest or the least int32 by the sign, ErrRange). The world: as it was, or with the one new row that '[]byte(..)' lays. (LAID: no walk: one application.) -/
theorem Tryd.internal_strconv_ParseInt_10_at32 (s : ByteArray) (hne : s.size ≠ 0) (hmax : s.size ≤ 9223372036854775806) (w : World) :
    Calls Tryd.prog 115 #[.string s, .int .i64 10, .int .i64 32] w fun e w' => e = .returned (Lib.intTuple 162 (Lib.intSat 32 s.data.toList) (Lib.parseIntB 32 s.data.toList)) ∧ (w' = w ∨ ∃ t, w' = Lib.bytesWorld w 5 t) := Any.internal_strconv_ParseInt_10_at32 Tryd.laysC247 s hne hmax w
open Go.RowKit in
/-- internal/strconv.ParseInt(s, 10, 16), s NOT EMPTY: 'Lib.parseIntB 16' OF ITS BYTES: (the number, nil); (0, ErrSyntax); (the greatest or the least int16 by the sign, ErrRange). The world: as it was, or with the one new row that '[]byte(..)' lays. (LAID: no walk: one application.) -/
theorem Tryd.internal_strconv_ParseInt_10_at16 (s : ByteArray) (hne : s.size ≠ 0) (hmax : s.size ≤ 9223372036854775806) (w : World) :
    Calls Tryd.prog 115 #[.string s, .int .i64 10, .int .i64 16] w fun e w' => e = .returned (Lib.intTuple 162 (Lib.intSat 16 s.data.toList) (Lib.parseIntB 16 s.data.toList)) ∧ (w' = w ∨ ∃ t, w' = Lib.bytesWorld w 5 t) := Any.internal_strconv_ParseInt_10_at16 Tryd.laysC247 s hne hmax w
open Go.RowKit in
/-- internal/strconv.ParseInt(s, 10, 8), s NOT EMPTY: 'Lib.parseIntB 8' OF ITS BYTES: (the number, nil); (0, ErrSyntax); (the greatest or the least int8 by the sign, ErrRange). The world: as it was, or with the one new row that '[]byte(..)' lays. (LAID: no walk: one application.) -/
theorem Tryd.internal_strconv_ParseInt_10_at8 (s : ByteArray) (hne : s.size ≠ 0) (hmax : s.size ≤ 9223372036854775806) (w : World) :
    Calls Tryd.prog 115 #[.string s, .int .i64 10, .int .i64 8] w fun e w' => e = .returned (Lib.intTuple 162 (Lib.intSat 8 s.data.toList) (Lib.parseIntB 8 s.data.toList)) ∧ (w' = w ∨ ∃ t, w' = Lib.bytesWorld w 5 t) := Any.internal_strconv_ParseInt_10_at8 Tryd.laysC247 s hne hmax w
open Go.RowKit in
/-- internal/strconv.ParseInt(s, 10, 0), AT EVERY STRING: 'Lib.parseIntB 64' OF ITS BYTES. (LAID: no walk: one application.) -/
theorem Tryd.internal_strconv_ParseInt_10_all0 (s : ByteArray) (hmax : s.size ≤ 9223372036854775806) (w : World) :
    Calls Tryd.prog 115 #[.string s, .int .i64 10, .int .i64 0] w fun e w' => e = .returned (Lib.intTuple 162 (Lib.intSat 64 s.data.toList) (Lib.parseIntB 64 s.data.toList)) ∧ (w' = w ∨ ∃ t, w' = Lib.bytesWorld w 5 t) := Any.internal_strconv_ParseInt_10_all0 Tryd.laysC247 s hmax w
open Go.RowKit in
/-- internal/strconv.ParseInt(s, 10, 64), AT EVERY STRING: 'Lib.parseIntB 64' OF ITS BYTES. (LAID: no walk: one application.) -/
theorem Tryd.internal_strconv_ParseInt_10_all64 (s : ByteArray) (hmax : s.size ≤ 9223372036854775806) (w : World) :
    Calls Tryd.prog 115 #[.string s, .int .i64 10, .int .i64 64] w fun e w' => e = .returned (Lib.intTuple 162 (Lib.intSat 64 s.data.toList) (Lib.parseIntB 64 s.data.toList)) ∧ (w' = w ∨ ∃ t, w' = Lib.bytesWorld w 5 t) := Any.internal_strconv_ParseInt_10_all64 Tryd.laysC247 s hmax w
open Go.RowKit in
/-- internal/strconv.ParseInt(s, 10, 32), AT EVERY STRING: 'Lib.parseIntB 32' OF ITS BYTES. (LAID: no walk: one application.) -/
theorem Tryd.internal_strconv_ParseInt_10_all32 (s : ByteArray) (hmax : s.size ≤ 9223372036854775806) (w : World) :
    Calls Tryd.prog 115 #[.string s, .int .i64 10, .int .i64 32] w fun e w' => e = .returned (Lib.intTuple 162 (Lib.intSat 32 s.data.toList) (Lib.parseIntB 32 s.data.toList)) ∧ (w' = w ∨ ∃ t, w' = Lib.bytesWorld w 5 t) := Any.internal_strconv_ParseInt_10_all32 Tryd.laysC247 s hmax w
open Go.RowKit in
/-- internal/strconv.ParseInt(s, 10, 16), AT EVERY STRING: 'Lib.parseIntB 16' OF ITS BYTES. (LAID: no walk: one application.) -/
theorem Tryd.internal_strconv_ParseInt_10_all16 (s : ByteArray) (hmax : s.size ≤ 9223372036854775806) (w : World) :
    Calls Tryd.prog 115 #[.string s, .int .i64 10, .int .i64 16] w fun e w' => e = .returned (Lib.intTuple 162 (Lib.intSat 16 s.data.toList) (Lib.parseIntB 16 s.data.toList)) ∧ (w' = w ∨ ∃ t, w' = Lib.bytesWorld w 5 t) := Any.internal_strconv_ParseInt_10_all16 Tryd.laysC247 s hmax w
open Go.RowKit in
/-- internal/strconv.ParseInt(s, 10, 8), AT EVERY STRING: 'Lib.parseIntB 8' OF ITS BYTES. (LAID: no walk: one application.) -/
theorem Tryd.internal_strconv_ParseInt_10_all8 (s : ByteArray) (hmax : s.size ≤ 9223372036854775806) (w : World) :
    Calls Tryd.prog 115 #[.string s, .int .i64 10, .int .i64 8] w fun e w' => e = .returned (Lib.intTuple 162 (Lib.intSat 8 s.data.toList) (Lib.parseIntB 8 s.data.toList)) ∧ (w' = w ∨ ∃ t, w' = Lib.bytesWorld w 5 t) := Any.internal_strconv_ParseInt_10_all8 Tryd.laysC247 s hmax w
open Go.RowKit in
/-- binary.LittleEndian.Uint64, ITS PREMISES 'open_ints'' CONCLUSION TO THE LETTER: a slice at WHATEVER address a, the numbers zs that its cells hold: THE NUMBER THAT THE FIRST 8 SPELL ('Lib.leZ'). (LAID: no walk: one application.) -/
theorem Tryd.binary_LE_Uint64_z (a : Addr) (n c : Nat) (zs : List Int) (w : World) (hn : 8 ≤ n) (hl : 8 ≤ zs.length) (hcell : ∀ i, i < zs.length → w.cell? (a.add i) = some (.int .u8 (zs.getD i 0))) (hw : ∀ z ∈ zs, (Lit.int .u8 z).wf = true) :
    Calls Tryd.prog 108 #[.agg #[], .slice (some a) n c] w fun e w' => e = .returned (.int .u64 (Lib.leZ (zs.take 8))) ∧ Below w.heap.size w w' := Any.binary_LE_Uint64_z Tryd.laysBin33 a n c zs w hn hl hcell hw
def Tryd.lays187_ren : Go.Shelf.Ren := ⟨fun | 187 => 76 | 255 => 90 | n => n, fun | 37 => 77 | 5 => 5 | 3 => 3 | n => n, fun | n => n⟩
theorem Tryd.lays187 : Go.Proofs.Lays.n187 Tryd.prog Tryd.lays187_ren := {
  mixed := by kernel_rfl
  f187 := Tryd.func76.trans (congrArg some (by kernel_rfl))
  f255 := Tryd.func90.trans (congrArg some (by kernel_rfl))
  t3 := Tryd.underlying3
  a3 := Tryd.isAgg3
  z3 := Tryd.sizeOf3
  v3 := Tryd.zeroValue3
  t5 := Tryd.underlying5
  a5 := Tryd.isAgg5
  z5 := Tryd.sizeOf5
  v5 := Tryd.zeroValue5
  t37 := Tryd.underlying77
  a37 := Tryd.isAgg77
  z37 := Tryd.sizeOf77
  v37 := Tryd.zeroValue77 }
open Go.RowKit Go.Lib in
/-- bytes.IndexByte, b at whatever address: "IndexByte returns the index of the first instance of c in b, or -1 if c is not present in b." (LAID: no walk: one application.) -/
theorem Tryd.bytes_IndexByte_at (a : Addr) (n c : Nat) (xs : List Int) (cv : Int) (w : World) (hx : xs.length = n) (hc : ∀ i, i < n → w.cell? (a.add i) = some (.int .u8 (xs.getD i 0))) :
    Calls Tryd.prog 76 #[.slice (some a) n c, .int .u8 cv] w fun e w' => e = .returned (.int .i64 (Lib.indexByte (Lib.bytesOf xs) cv.toNat.toUInt8)) ∧ w' = w := Any.bytes_IndexByte_at Tryd.lays187 a n c xs cv w hx hc
open Go.Proofs Go.RowKit Go.Lib in
/-- bytes.IndexByte, the slice's bytes told by a ByteArray. (LAID: no walk: one application.) -/
theorem Tryd.bytes_IndexByte_bytes (b o cap : Nat) (t : ByteArray) (cv : Int) (w : World) (hc : Lib.Bytes w b o t) :
    Calls Tryd.prog 76 #[.slice (some ⟨b, o, none⟩) t.size cap, .int .u8 cv] w fun e w' => e = .returned (.int .i64 (Lib.indexByte t.data.toList cv.toNat.toUInt8)) ∧ w' = w := Any.bytes_IndexByte_bytes Tryd.lays187 b o cap t cv w hc
/-- bytes.IndexByte: "IndexByte returns the index of the first instance of c in b, or -1 if c is not present in b.": IT RETURNS 'Lib.indexByte (the bytes of b) c'; the world is as it was. 'xs': the numbers that the slice's cells hold. (LAID: no walk: one application.) -/
theorem Tryd.bytes_IndexByte (b o n c : Nat) (xs : List Int) (cv : Int) (w : World) (hx : xs.length = n) (hc : ∀ i, i < n → w.cell? ⟨b, o + i, none⟩ = some (.int .u8 (xs.getD i 0))) :
    Calls Tryd.prog 76 #[.slice (some ⟨b, o, none⟩) n c, .int .u8 cv] w fun e w' => e = .returned (.int .i64 (Lib.indexByte (Lib.bytesOf xs) cv.toNat.toUInt8)) ∧ w' = w := Any.bytes_IndexByte Tryd.lays187 b o n c xs cv w hx hc
/-- bytes.IndexByte AT nil: -1. (LAID: no walk: one application.) -/
theorem Tryd.bytes_IndexByte_nil (cv : Int) (w : World) :
    Calls Tryd.prog 76 #[.slice none 0 0, .int .u8 cv] w fun e w' => e = .returned (.int .i64 (-1)) ∧ w' = w := Any.bytes_IndexByte_nil Tryd.lays187 cv w
end Go.Proofs
