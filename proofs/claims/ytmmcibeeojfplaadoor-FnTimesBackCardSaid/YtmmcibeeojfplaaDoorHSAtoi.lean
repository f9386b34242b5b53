/- Contracts of the library's functions, laid by the kit's lay-shelf at this seat's program. -/
import Derived.Shelf.Strings.Builder1
import Derived.Shelf.Strings.Builder2
import Derived.Shelf.Strings.OnBuilder
import Derived.Shelf.Small.Utf8
import Derived.Shelf.Strings.BuilderF
import Derived.Shelf.Strings.BuilderK
import Derived.Shelf.Strings.BuilderRune
import Derived.Shelf.Strconv.Atoi
import Derived.Shelf.Strconv.Itoa0
import Derived.Shelf.Strconv.Itoa1
import Derived.Shelf.LaysM
import Derived.Shelf.Strconv.Itoa2
import Derived.Shelf.Strconv.Itoa3
import Derived.Shelf.Strconv.AtoiErrFast
import Derived.Shelf.Strconv.ParseIntEmpty
import Derived.Shelf.Strconv.AtoiFail
import Derived.Shelf.Strconv.Clone
import Derived.Shelf.Strconv.SyntaxError
import Derived.Shelf.LaysC
import Derived.Shelf.Strconv.ToError
import Derived.Shelf.Strconv.Lower
import Derived.Shelf.Strconv.ParseUint10
import Derived.Shelf.Strconv.ParseUint10Empty
import Derived.Shelf.Strconv.ParseUint10Any
import Derived.Shelf.Strconv.ParseInt10
import Derived.Shelf.Strconv.AtoiLong
import Derived.Shelf.Strconv.AtoiInnerAll
import Derived.Shelf.Strconv.RangeError
import Derived.Shelf.Strconv.ToErrorRange
import Derived.Shelf.Strconv.AtoiAll
import Derived.Shelf.Strconv.ErrVarAll
import Derived.Ground.MpProg
import Derived.Shelf.Pu.ParseUintPublic10
import Derived.Shelf.Pu.ErrVarParseUint
import Derived.Shelf.GgClosure.StringsIndexFunc
import Derived.Shelf.Unicode.Latin
import Derived.Shelf.Unicode.Decode
import Derived.Shelf.Unicode.DecodeSlow
import Derived.Shelf.Unicode.DecodeAny
import Derived.Shelf.Unicode.Is16White
import Derived.Shelf.Unicode.IsSpaceAny
import Derived.Shelf.Unicode.DecodeLast
import Derived.Shelf.Unicode.CaseLookup
import Derived.Shelf.Unicode.CaseConvert
import Derived.Shelf.Unicode.CaseTo
import Derived.Shelf.Unicode.CaseLaid
import Derived.Shelf.Strings.MapAny
import Derived.Shelf.Strings.CaseAny
import Derived.Shelf.Unicode.Is16Any
import Derived.Shelf.Unicode.Is32Any
import Derived.Shelf.Unicode.ExclAny
import Derived.Test.YtmmcibeeojfplaaDoorProg
set_option linter.unusedVariables false
set_option linter.unusedSimpArgs false
namespace Go.Proofs
open Go.Shelf
def Tryd.laysM171_ren : Go.Shelf.Ren := ⟨fun | 171 => 143 | 243 => 158 | 246 => 168 | 283 => 173 | 284 => 174 | 285 => 175 | 286 => 176 | 129 => 180 | 317 => 179 | 318 => 181 | 319 => 182 | 320 => 183 | 337 => 184 | 338 => 185 | n => n, fun | 3 => 3 | 9 => 9 | 2 => 2 | 4 => 4 | 171 => 216 | 0 => 0 | 53 => 104 | 37 => 27 | 5 => 5 | 173 => 219 | 212 => 226 | 51 => 173 | 20 => 20 | 213 => 227 | 46 => 152 | 232 => 235 | 233 => 236 | n => n, fun | 17 => 13 | 18 => 14 | 19 => 15 | n => n⟩
theorem Tryd.laysM171 : Go.Proofs.LaysM.n171 Tryd.prog Tryd.laysM171_ren := {
  mixed := by kernel_rfl
  f129 := Tryd.func180.trans (congrArg some (by kernel_rfl))
  f171 := Tryd.func143.trans (congrArg some (by kernel_rfl))
  f243 := Tryd.func158.trans (congrArg some (by kernel_rfl))
  f246 := Tryd.func168.trans (congrArg some (by kernel_rfl))
  f283 := Tryd.func173.trans (congrArg some (by kernel_rfl))
  f284 := Tryd.func174.trans (congrArg some (by kernel_rfl))
  f285 := Tryd.func175.trans (congrArg some (by kernel_rfl))
  f286 := Tryd.func176.trans (congrArg some (by kernel_rfl))
  f317 := Tryd.func179.trans (congrArg some (by kernel_rfl))
  f318 := Tryd.func181.trans (congrArg some (by kernel_rfl))
  f319 := Tryd.func182.trans (congrArg some (by kernel_rfl))
  f320 := Tryd.func183.trans (congrArg some (by kernel_rfl))
  f337 := Tryd.func184.trans (congrArg some (by kernel_rfl))
  f338 := Tryd.func185.trans (congrArg some (by kernel_rfl))
  t0 := Tryd.underlying0
  a0 := Tryd.isAgg0
  z0 := Tryd.sizeOf0
  v0 := Tryd.zeroValue0
  t2 := Tryd.underlying2
  a2 := Tryd.isAgg2
  z2 := Tryd.sizeOf2
  v2 := Tryd.zeroValue2
  t3 := Tryd.underlying3
  a3 := Tryd.isAgg3
  z3 := Tryd.sizeOf3
  v3 := Tryd.zeroValue3
  t4 := Tryd.underlying4
  a4 := Tryd.isAgg4
  z4 := Tryd.sizeOf4
  v4 := Tryd.zeroValue4
  t5 := Tryd.underlying5
  a5 := Tryd.isAgg5
  z5 := Tryd.sizeOf5
  v5 := Tryd.zeroValue5
  t9 := Tryd.underlying9
  a9 := Tryd.isAgg9
  z9 := Tryd.sizeOf9
  v9 := Tryd.zeroValue9
  t20 := Tryd.underlying20
  a20 := Tryd.isAgg20
  z20 := Tryd.sizeOf20
  v20 := Tryd.zeroValue20
  t37 := Tryd.underlying27
  a37 := Tryd.isAgg27
  z37 := Tryd.sizeOf27
  v37 := Tryd.zeroValue27
  t46 := Tryd.underlying152
  a46 := Tryd.isAgg152
  z46 := Tryd.sizeOf152
  v46 := Tryd.zeroValue152
  t51 := Tryd.underlying173
  a51 := Tryd.isAgg173
  z51 := Tryd.sizeOf173
  v51 := Tryd.zeroValue173
  t53 := Tryd.underlying104
  a53 := Tryd.isAgg104
  z53 := Tryd.sizeOf104
  v53 := Tryd.zeroValue104
  t171 := Tryd.underlying216
  a171 := Tryd.isAgg216
  z171 := Tryd.sizeOf216
  v171 := Tryd.zeroValue216
  t173 := Tryd.underlying219
  a173 := Tryd.isAgg219
  z173 := Tryd.sizeOf219
  v173 := Tryd.zeroValue219
  t212 := Tryd.underlying226
  a212 := Tryd.isAgg226
  z212 := Tryd.sizeOf226
  v212 := Tryd.zeroValue226
  t213 := Tryd.underlying227
  a213 := Tryd.isAgg227
  z213 := Tryd.sizeOf227
  t232 := Tryd.underlying235
  a232 := Tryd.isAgg235
  z232 := Tryd.sizeOf235
  v232 := Tryd.zeroValue235
  t233 := Tryd.underlying236
  a233 := Tryd.isAgg236
  z233 := Tryd.sizeOf236
  v233 := Tryd.zeroValue236
  g17 := by kernel_rfl
  g18 := by kernel_rfl
  g19 := by kernel_rfl
  i0 := by kernel_rfl
  i2 := by kernel_rfl
  i3 := by kernel_rfl
  i4 := by kernel_rfl
  i5 := by kernel_rfl
  i9 := by kernel_rfl
  i20 := by kernel_rfl
  i37 := by kernel_rfl
  i46 := by kernel_rfl
  i51 := by kernel_rfl
  i53 := by kernel_rfl
  i171 := by kernel_rfl
  i173 := by kernel_rfl
  i212 := by kernel_rfl
  i232 := by kernel_rfl
  i233 := by kernel_rfl
  m17 := by kernel_rfl
  m18 := by kernel_rfl
  m19 := by kernel_rfl }
open Go.RowKit Go.Sort Go.Lib in
/-- strconv.Itoa: "Itoa is equivalent to FormatInt(int64(i), 10).": i's DECIMAL NUMERAL ('Lib.itoa': a '-' where i is negative, then the digits), FOR EVERY int. The world behind the call: the world before it, new blocks behind the heap (the library's 'var a [24]byte'), draws. (LAID: no walk: one application.) -/
theorem Tryd.strconv_Itoa (n : Int) (h0 : -9223372036854775808 ≤ n) (h1 : n ≤ 9223372036854775807) (w : World) (htab : Lib.TabIs Tryd.prog w "internal/strconv.uint64pow10" .u64 Lib.pow10Tab) :
    Calls Tryd.prog 143 #[.int .i64 n] w fun e w' => e = .returned (.string ⟨(Lib.itoa n).toArray⟩) ∧ ∃ k os, w' = grow (w.drewN k) os := Any.strconv_Itoa Tryd.laysM171 n h0 h1 w htab
def Tryd.lays171_ren : Go.Shelf.Ren := ⟨fun | 171 => 143 | 243 => 158 | 246 => 168 | 283 => 173 | 284 => 174 | 285 => 175 | 286 => 176 | 129 => 180 | 317 => 179 | 318 => 181 | 319 => 182 | 320 => 183 | 337 => 184 | 338 => 185 | n => n, fun | 3 => 3 | 9 => 9 | 2 => 2 | 4 => 4 | 171 => 216 | 0 => 0 | 53 => 104 | 37 => 27 | 5 => 5 | 173 => 219 | 212 => 226 | 51 => 173 | 20 => 20 | 213 => 227 | 46 => 152 | 232 => 235 | 233 => 236 | n => n, fun | 17 => 13 | 18 => 14 | 19 => 15 | n => n⟩
theorem Tryd.lays171 : Go.Proofs.Lays.n171 Tryd.prog Tryd.lays171_ren := {
  mixed := by kernel_rfl
  f129 := Tryd.func180.trans (congrArg some (by kernel_rfl))
  f171 := Tryd.func143.trans (congrArg some (by kernel_rfl))
  f243 := Tryd.func158.trans (congrArg some (by kernel_rfl))
  f246 := Tryd.func168.trans (congrArg some (by kernel_rfl))
  f283 := Tryd.func173.trans (congrArg some (by kernel_rfl))
  f284 := Tryd.func174.trans (congrArg some (by kernel_rfl))
  f285 := Tryd.func175.trans (congrArg some (by kernel_rfl))
  f286 := Tryd.func176.trans (congrArg some (by kernel_rfl))
  f317 := Tryd.func179.trans (congrArg some (by kernel_rfl))
  f318 := Tryd.func181.trans (congrArg some (by kernel_rfl))
  f319 := Tryd.func182.trans (congrArg some (by kernel_rfl))
  f320 := Tryd.func183.trans (congrArg some (by kernel_rfl))
  f337 := Tryd.func184.trans (congrArg some (by kernel_rfl))
  f338 := Tryd.func185.trans (congrArg some (by kernel_rfl))
  t0 := Tryd.underlying0
  a0 := Tryd.isAgg0
  z0 := Tryd.sizeOf0
  v0 := Tryd.zeroValue0
  t2 := Tryd.underlying2
  a2 := Tryd.isAgg2
  z2 := Tryd.sizeOf2
  v2 := Tryd.zeroValue2
  t3 := Tryd.underlying3
  a3 := Tryd.isAgg3
  z3 := Tryd.sizeOf3
  v3 := Tryd.zeroValue3
  t4 := Tryd.underlying4
  a4 := Tryd.isAgg4
  z4 := Tryd.sizeOf4
  v4 := Tryd.zeroValue4
  t5 := Tryd.underlying5
  a5 := Tryd.isAgg5
  z5 := Tryd.sizeOf5
  v5 := Tryd.zeroValue5
  t9 := Tryd.underlying9
  a9 := Tryd.isAgg9
  z9 := Tryd.sizeOf9
  v9 := Tryd.zeroValue9
  t20 := Tryd.underlying20
  a20 := Tryd.isAgg20
  z20 := Tryd.sizeOf20
  v20 := Tryd.zeroValue20
  t37 := Tryd.underlying27
  a37 := Tryd.isAgg27
  z37 := Tryd.sizeOf27
  v37 := Tryd.zeroValue27
  t46 := Tryd.underlying152
  a46 := Tryd.isAgg152
  z46 := Tryd.sizeOf152
  v46 := Tryd.zeroValue152
  t51 := Tryd.underlying173
  a51 := Tryd.isAgg173
  z51 := Tryd.sizeOf173
  v51 := Tryd.zeroValue173
  t53 := Tryd.underlying104
  a53 := Tryd.isAgg104
  z53 := Tryd.sizeOf104
  v53 := Tryd.zeroValue104
  t171 := Tryd.underlying216
  a171 := Tryd.isAgg216
  z171 := Tryd.sizeOf216
  v171 := Tryd.zeroValue216
  t173 := Tryd.underlying219
  a173 := Tryd.isAgg219
  z173 := Tryd.sizeOf219
  v173 := Tryd.zeroValue219
  t212 := Tryd.underlying226
  a212 := Tryd.isAgg226
  z212 := Tryd.sizeOf226
  v212 := Tryd.zeroValue226
  t213 := Tryd.underlying227
  a213 := Tryd.isAgg227
  z213 := Tryd.sizeOf227
  t232 := Tryd.underlying235
  a232 := Tryd.isAgg235
  z232 := Tryd.sizeOf235
  v232 := Tryd.zeroValue235
  t233 := Tryd.underlying236
  a233 := Tryd.isAgg236
  z233 := Tryd.sizeOf236
  v233 := Tryd.zeroValue236
  g17 := by kernel_rfl
  g18 := by kernel_rfl
  g19 := by kernel_rfl }
open Go.RowKit Go.Sort Go.Lib in
/-- THE ROAD WITHOUT THE TABLE: 0 <= i < 100: NO PREMISE ON THE WORLD, AND THE WORLD IS AS IT WAS: a row that keeps its argument in that range need list no table ('laid = []'). (LAID: no walk: one application.) -/
theorem Tryd.strconv_Itoa_small (i : Nat) (hi : i < 100) (w : World) :
    Calls Tryd.prog 143 #[.int .i64 i] w fun e w' => e = .returned (.string ⟨(Lib.decDigits i).toArray⟩) ∧ w' = w := Any.strconv_Itoa_small Tryd.lays171 i hi w
def Tryd.laysC172_ren : Go.Shelf.Ren := ⟨fun | 172 => 142 | 244 => 157 | 245 => 103 | 247 => 167 | 279 => 126 | 280 => 127 | 281 => 128 | 282 => 129 | 287 => 102 | 316 => 150 | 171 => 143 | 205 => 70 | 321 => 124 | 322 => 125 | 243 => 158 | 246 => 168 | 283 => 173 | 284 => 174 | 285 => 175 | 286 => 176 | 129 => 180 | 317 => 179 | 318 => 181 | 319 => 182 | 320 => 183 | 337 => 184 | 338 => 185 | n => n, fun | 9 => 9 | 3 => 3 | 75 => 63 | 76 => 119 | 4 => 4 | 5 => 5 | 167 => 166 | 37 => 27 | 0 => 0 | 85 => 204 | 2 => 2 | 168 => 168 | 53 => 104 | 175 => 106 | 46 => 152 | 210 => 185 | 127 => 154 | 145 => 143 | 143 => 141 | 21 => 21 | 171 => 216 | 173 => 219 | 212 => 226 | 51 => 173 | 20 => 20 | 213 => 227 | 232 => 235 | 233 => 236 | 80 => 82 | n => n, fun | 15 => 4 | 16 => 5 | 17 => 13 | 18 => 14 | 19 => 15 | n => n⟩
theorem Tryd.laysC172 : Go.Proofs.LaysC.n172 Tryd.prog Tryd.laysC172_ren := {
  mixed := by kernel_rfl
  f129 := Tryd.func180.trans (congrArg some (by kernel_rfl))
  f171 := Tryd.func143.trans (congrArg some (by kernel_rfl))
  f172 := Tryd.func142.trans (congrArg some (by kernel_rfl))
  f205 := Tryd.func70.trans (congrArg some (by kernel_rfl))
  f243 := Tryd.func158.trans (congrArg some (by kernel_rfl))
  f244 := Tryd.func157.trans (congrArg some (by kernel_rfl))
  f245 := Tryd.func103.trans (congrArg some (by kernel_rfl))
  f246 := Tryd.func168.trans (congrArg some (by kernel_rfl))
  f247 := Tryd.func167.trans (congrArg some (by kernel_rfl))
  f279 := Tryd.func126.trans (congrArg some (by kernel_rfl))
  f280 := Tryd.func127.trans (congrArg some (by kernel_rfl))
  f281 := Tryd.func128.trans (congrArg some (by kernel_rfl))
  f282 := Tryd.func129.trans (congrArg some (by kernel_rfl))
  f283 := Tryd.func173.trans (congrArg some (by kernel_rfl))
  f284 := Tryd.func174.trans (congrArg some (by kernel_rfl))
  f285 := Tryd.func175.trans (congrArg some (by kernel_rfl))
  f286 := Tryd.func176.trans (congrArg some (by kernel_rfl))
  f287 := Tryd.func102.trans (congrArg some (by kernel_rfl))
  f316 := Tryd.func150.trans (congrArg some (by kernel_rfl))
  f317 := Tryd.func179.trans (congrArg some (by kernel_rfl))
  f318 := Tryd.func181.trans (congrArg some (by kernel_rfl))
  f319 := Tryd.func182.trans (congrArg some (by kernel_rfl))
  f320 := Tryd.func183.trans (congrArg some (by kernel_rfl))
  f321 := Tryd.func124.trans (congrArg some (by kernel_rfl))
  f322 := Tryd.func125.trans (congrArg some (by kernel_rfl))
  f337 := Tryd.func184.trans (congrArg some (by kernel_rfl))
  f338 := Tryd.func185.trans (congrArg some (by kernel_rfl))
  t0 := Tryd.underlying0
  a0 := Tryd.isAgg0
  z0 := Tryd.sizeOf0
  v0 := Tryd.zeroValue0
  t2 := Tryd.underlying2
  a2 := Tryd.isAgg2
  z2 := Tryd.sizeOf2
  v2 := Tryd.zeroValue2
  t3 := Tryd.underlying3
  a3 := Tryd.isAgg3
  z3 := Tryd.sizeOf3
  v3 := Tryd.zeroValue3
  t4 := Tryd.underlying4
  a4 := Tryd.isAgg4
  z4 := Tryd.sizeOf4
  v4 := Tryd.zeroValue4
  t5 := Tryd.underlying5
  a5 := Tryd.isAgg5
  z5 := Tryd.sizeOf5
  v5 := Tryd.zeroValue5
  t9 := Tryd.underlying9
  a9 := Tryd.isAgg9
  z9 := Tryd.sizeOf9
  v9 := Tryd.zeroValue9
  t20 := Tryd.underlying20
  a20 := Tryd.isAgg20
  z20 := Tryd.sizeOf20
  v20 := Tryd.zeroValue20
  t21 := Tryd.underlying21
  a21 := Tryd.isAgg21
  z21 := Tryd.sizeOf21
  v21 := Tryd.zeroValue21
  t37 := Tryd.underlying27
  a37 := Tryd.isAgg27
  z37 := Tryd.sizeOf27
  v37 := Tryd.zeroValue27
  t46 := Tryd.underlying152
  a46 := Tryd.isAgg152
  z46 := Tryd.sizeOf152
  v46 := Tryd.zeroValue152
  t51 := Tryd.underlying173
  a51 := Tryd.isAgg173
  z51 := Tryd.sizeOf173
  v51 := Tryd.zeroValue173
  t53 := Tryd.underlying104
  a53 := Tryd.isAgg104
  z53 := Tryd.sizeOf104
  v53 := Tryd.zeroValue104
  t75 := Tryd.underlying63
  a75 := Tryd.isAgg63
  z75 := Tryd.sizeOf63
  v75 := Tryd.zeroValue63
  t76 := Tryd.underlying119
  a76 := Tryd.isAgg119
  z76 := Tryd.sizeOf119
  v76 := Tryd.zeroValue119
  t85 := Tryd.underlying204
  a85 := Tryd.isAgg204
  z85 := Tryd.sizeOf204
  v85 := Tryd.zeroValue204
  t127 := Tryd.underlying154
  a127 := Tryd.isAgg154
  z127 := Tryd.sizeOf154
  v127 := Tryd.zeroValue154
  t143 := Tryd.underlying141
  a143 := Tryd.isAgg141
  z143 := Tryd.sizeOf141
  v143 := Tryd.zeroValue141
  t145 := Tryd.underlying143
  a145 := Tryd.isAgg143
  z145 := Tryd.sizeOf143
  v145 := Tryd.zeroValue143
  t167 := Tryd.underlying166
  a167 := Tryd.isAgg166
  z167 := Tryd.sizeOf166
  v167 := Tryd.zeroValue166
  t168 := Tryd.underlying168
  a168 := Tryd.isAgg168
  z168 := Tryd.sizeOf168
  v168 := Tryd.zeroValue168
  t171 := Tryd.underlying216
  a171 := Tryd.isAgg216
  z171 := Tryd.sizeOf216
  v171 := Tryd.zeroValue216
  t173 := Tryd.underlying219
  a173 := Tryd.isAgg219
  z173 := Tryd.sizeOf219
  v173 := Tryd.zeroValue219
  t175 := Tryd.underlying106
  a175 := Tryd.isAgg106
  z175 := Tryd.sizeOf106
  v175 := Tryd.zeroValue106
  t210 := Tryd.underlying185
  a210 := Tryd.isAgg185
  z210 := Tryd.sizeOf185
  v210 := Tryd.zeroValue185
  t212 := Tryd.underlying226
  a212 := Tryd.isAgg226
  z212 := Tryd.sizeOf226
  v212 := Tryd.zeroValue226
  t213 := Tryd.underlying227
  a213 := Tryd.isAgg227
  z213 := Tryd.sizeOf227
  t232 := Tryd.underlying235
  a232 := Tryd.isAgg235
  z232 := Tryd.sizeOf235
  v232 := Tryd.zeroValue235
  t233 := Tryd.underlying236
  a233 := Tryd.isAgg236
  z233 := Tryd.sizeOf236
  v233 := Tryd.zeroValue236
  g15 := by kernel_rfl
  g16 := by kernel_rfl
  g17 := by kernel_rfl
  g18 := by kernel_rfl
  g19 := by kernel_rfl
  t80 := Tryd.underlying82
  a80 := Tryd.isAgg82
  z80 := Tryd.sizeOf82
  v80 := Tryd.zeroValue82
  i0 := by kernel_rfl
  i2 := by kernel_rfl
  i3 := by kernel_rfl
  i4 := by kernel_rfl
  i5 := by kernel_rfl
  i9 := by kernel_rfl
  i20 := by kernel_rfl
  i21 := by kernel_rfl
  i37 := by kernel_rfl
  i46 := by kernel_rfl
  i51 := by kernel_rfl
  i53 := by kernel_rfl
  i75 := by kernel_rfl
  i76 := by kernel_rfl
  i80 := by kernel_rfl
  i85 := by kernel_rfl
  i127 := by kernel_rfl
  i143 := by kernel_rfl
  i145 := by kernel_rfl
  i167 := by kernel_rfl
  i168 := by kernel_rfl
  i171 := by kernel_rfl
  i173 := by kernel_rfl
  i175 := by kernel_rfl
  i210 := by kernel_rfl
  i212 := by kernel_rfl
  i232 := by kernel_rfl
  i233 := by kernel_rfl
  m15 := by kernel_rfl
  m16 := by kernel_rfl
  m17 := by kernel_rfl
  m18 := by kernel_rfl
  m19 := by kernel_rfl
  c0 := by kernel_rfl
  c2 := by kernel_rfl
  c3 := by kernel_rfl
  c4 := by kernel_rfl
  c5 := by kernel_rfl
  c9 := by kernel_rfl
  c20 := by kernel_rfl
  c21 := by kernel_rfl
  c37 := by kernel_rfl
  c46 := by kernel_rfl
  c51 := by kernel_rfl
  c53 := by kernel_rfl
  c75 := by kernel_rfl
  c76 := by kernel_rfl
  c80 := by kernel_rfl
  c85 := by kernel_rfl
  c127 := by kernel_rfl
  c143 := by kernel_rfl
  c145 := by kernel_rfl
  c167 := by kernel_rfl
  c168 := by kernel_rfl
  c171 := by kernel_rfl
  c173 := by kernel_rfl
  c175 := by kernel_rfl
  c210 := by kernel_rfl
  c212 := by kernel_rfl
  c213 := by kernel_rfl
  c232 := by kernel_rfl
  c233 := by kernel_rfl }
open Go.RowKit in
/-- strconv.Atoi, AT EVERY STRING THAT SPELLS AN int ('Lib.atoiAll .. = .ok v'; of whatever length: leading zeros count): v, AND NO ERROR. The world: as it was, or with the one new row that '[]byte(..)' lays. (LAID: no walk: one application.) -/
theorem Tryd.strconv_Atoi_ok (s : ByteArray) (hmax : s.size ≤ 9223372036854775806) (v : Int) (h : Lib.atoiAll s.data.toList = .ok v) (w : World) :
    Calls Tryd.prog 142 #[.string s] w fun e w' => e = .returned (.tuple #[.int .i64 v, .nilIface]) ∧ (w' = w ∨ ∃ t, w' = Lib.bytesWorld w 5 t) := Any.strconv_Atoi_ok Tryd.laysC172 s hmax v h w
open Go.RowKit in
theorem Tryd.strconv_Atoi_syntax_var (s : ByteArray) (hlim : s.size ≤ 281474976710656) (h : Lib.atoiAll s.data.toList = .«syntax») (tp : TypeId) (p : Value) (w : World) (hvar : w.var? Tryd.prog "strconv.ErrSyntax" = some #[.iface tp p]) :
    Calls Tryd.prog 142 #[.string s] w fun e w' => ∃ N, e = .returned (.tuple #[.int .i64 0, .iface 168 (.pointer (some ⟨N, 0, none⟩))]) ∧ w.heap.size ≤ N ∧ w'.heap[N]? = some (.cells #[.string ⟨#[65, 116, 111, 105]⟩, .string s, .iface tp p] 185 (0, 0)) ∧ Below w.heap.size w w' := Any.strconv_Atoi_syntax_var Tryd.laysC172 s hlim h tp p w hvar
open Go.RowKit in
theorem Tryd.strconv_Atoi_range_var (s : ByteArray) (hlim : s.size ≤ 281474976710656) (h : Lib.atoiAll s.data.toList = .range) (tp : TypeId) (p : Value) (w : World) (hvar : w.var? Tryd.prog "strconv.ErrRange" = some #[.iface tp p]) :
    Calls Tryd.prog 142 #[.string s] w fun e w' => ∃ N, e = .returned (.tuple #[.int .i64 (Lib.atoiSat s.data.toList), .iface 168 (.pointer (some ⟨N, 0, none⟩))]) ∧ w.heap.size ≤ N ∧ w'.heap[N]? = some (.cells #[.string ⟨#[65, 116, 111, 105]⟩, .string s, .iface tp p] 185 (0, 0)) ∧ Below w.heap.size w w' := Any.strconv_Atoi_range_var Tryd.laysC172 s hlim h tp p w hvar
end Go.Proofs
