/- Contracts of the library's functions, laid by the kit's lay-shelf at this seat's program. -/
import Derived.Shelf.Strings.Builder1
import Derived.Shelf.Small.Utf8
import Derived.Shelf.Strings.BuilderF
import Derived.Shelf.Strings.BuilderK
import Derived.Shelf.Strings.BuilderRune
import Derived.Shelf.Strconv.Atoi
import Derived.Shelf.Strconv.Itoa0
import Derived.Shelf.Strconv.Itoa1
import Derived.Shelf.LaysM
import Derived.Shelf.Strconv.Itoa2
import Derived.Shelf.Strconv.Itoa3
import Derived.Shelf.Strconv.AtoiErrFast
import Derived.Shelf.Strconv.ParseIntEmpty
import Derived.Shelf.Strconv.AtoiFail
import Derived.Shelf.Strconv.Clone
import Derived.Shelf.Strconv.SyntaxError
import Derived.Shelf.LaysC
import Derived.Shelf.Strconv.ToError
import Derived.Shelf.Strconv.Lower
import Derived.Shelf.Strconv.ParseUint10
import Derived.Shelf.Strconv.ParseUint10Empty
import Derived.Shelf.Strconv.ParseUint10Any
import Derived.Shelf.Strconv.ParseInt10
import Derived.Shelf.Strconv.AtoiLong
import Derived.Shelf.Strconv.AtoiInnerAll
import Derived.Shelf.Strconv.RangeError
import Derived.Shelf.Strconv.ToErrorRange
import Derived.Shelf.Strconv.AtoiAll
import Derived.Shelf.Strconv.ErrVarAll
import Derived.Ground.MpProg
import Derived.Shelf.Pu.ParseUintPublic10
import Derived.Shelf.Pu.ErrVarParseUint
import Derived.Shelf.GgClosure.StringsIndexFunc
import Derived.Shelf.Unicode.Latin
import Derived.Shelf.Unicode.DecodeSlow
import Derived.Shelf.Unicode.DecodeAny
import Derived.Shelf.Unicode.Is16White
import Derived.Shelf.Unicode.IsSpaceAny
import Derived.Shelf.Unicode.CaseLookup
import Derived.Shelf.Unicode.CaseConvert
import Derived.Shelf.Unicode.CaseTo
import Derived.Shelf.Unicode.CaseLaid
import Derived.Shelf.Unicode.Is16Any
import Derived.Shelf.Unicode.Is32Any
import Derived.Shelf.Unicode.ExclAny
import Derived.Test.YtmmcibeeojfplaaDoorProg
set_option linter.unusedVariables false
set_option linter.unusedSimpArgs false
namespace Go.Proofs
open Go.Shelf
def Tryd.laysPu14_ren : Go.Shelf.Ren := ⟨fun | 14 => 72 | 16 => 102 | 17 => 103 | 19 => 124 | 20 => 125 | 21 => 126 | 22 => 127 | 23 => 128 | 24 => 129 | 25 => 150 | 27 => 143 | 26 => 70 | 28 => 158 | 29 => 168 | 30 => 173 | 31 => 174 | 32 => 175 | 33 => 176 | 35 => 180 | 34 => 179 | 36 => 181 | 37 => 182 | 38 => 183 | 39 => 184 | 40 => 185 | n => n, fun | 9 => 9 | 3 => 3 | 22 => 104 | 24 => 63 | 25 => 106 | 4 => 4 | 34 => 166 | 5 => 5 | 36 => 152 | 37 => 27 | 0 => 0 | 39 => 168 | 21 => 21 | 44 => 185 | 47 => 154 | 50 => 143 | 48 => 141 | 2 => 2 | 52 => 216 | 55 => 219 | 59 => 226 | 60 => 173 | 20 => 20 | 61 => 227 | 65 => 235 | 66 => 236 | 67 => 82 | n => n, fun | 0 => 4 | 1 => 5 | 2 => 13 | 3 => 14 | 4 => 15 | n => n⟩
theorem Tryd.laysPu14 : Go.Proofs.LaysPu.n14 Tryd.prog Tryd.laysPu14_ren := {
  mixed := by kernel_rfl
  f14 := Tryd.func72.trans (congrArg some (by kernel_rfl))
  f16 := Tryd.func102.trans (congrArg some (by kernel_rfl))
  f17 := Tryd.func103.trans (congrArg some (by kernel_rfl))
  f19 := Tryd.func124.trans (congrArg some (by kernel_rfl))
  f20 := Tryd.func125.trans (congrArg some (by kernel_rfl))
  f21 := Tryd.func126.trans (congrArg some (by kernel_rfl))
  f22 := Tryd.func127.trans (congrArg some (by kernel_rfl))
  f23 := Tryd.func128.trans (congrArg some (by kernel_rfl))
  f24 := Tryd.func129.trans (congrArg some (by kernel_rfl))
  f25 := Tryd.func150.trans (congrArg some (by kernel_rfl))
  f26 := Tryd.func70.trans (congrArg some (by kernel_rfl))
  f27 := Tryd.func143.trans (congrArg some (by kernel_rfl))
  f28 := Tryd.func158.trans (congrArg some (by kernel_rfl))
  f29 := Tryd.func168.trans (congrArg some (by kernel_rfl))
  f30 := Tryd.func173.trans (congrArg some (by kernel_rfl))
  f31 := Tryd.func174.trans (congrArg some (by kernel_rfl))
  f32 := Tryd.func175.trans (congrArg some (by kernel_rfl))
  f33 := Tryd.func176.trans (congrArg some (by kernel_rfl))
  f34 := Tryd.func179.trans (congrArg some (by kernel_rfl))
  f35 := Tryd.func180.trans (congrArg some (by kernel_rfl))
  f36 := Tryd.func181.trans (congrArg some (by kernel_rfl))
  f37 := Tryd.func182.trans (congrArg some (by kernel_rfl))
  f38 := Tryd.func183.trans (congrArg some (by kernel_rfl))
  f39 := Tryd.func184.trans (congrArg some (by kernel_rfl))
  f40 := Tryd.func185.trans (congrArg some (by kernel_rfl))
  t0 := Tryd.underlying0
  a0 := Tryd.isAgg0
  z0 := Tryd.sizeOf0
  v0 := Tryd.zeroValue0
  i0 := by kernel_rfl
  t2 := Tryd.underlying2
  a2 := Tryd.isAgg2
  z2 := Tryd.sizeOf2
  v2 := Tryd.zeroValue2
  i2 := by kernel_rfl
  t3 := Tryd.underlying3
  a3 := Tryd.isAgg3
  z3 := Tryd.sizeOf3
  v3 := Tryd.zeroValue3
  i3 := by kernel_rfl
  t4 := Tryd.underlying4
  a4 := Tryd.isAgg4
  z4 := Tryd.sizeOf4
  v4 := Tryd.zeroValue4
  i4 := by kernel_rfl
  t5 := Tryd.underlying5
  a5 := Tryd.isAgg5
  z5 := Tryd.sizeOf5
  v5 := Tryd.zeroValue5
  i5 := by kernel_rfl
  t9 := Tryd.underlying9
  a9 := Tryd.isAgg9
  z9 := Tryd.sizeOf9
  v9 := Tryd.zeroValue9
  i9 := by kernel_rfl
  t20 := Tryd.underlying20
  a20 := Tryd.isAgg20
  z20 := Tryd.sizeOf20
  v20 := Tryd.zeroValue20
  i20 := by kernel_rfl
  t21 := Tryd.underlying21
  a21 := Tryd.isAgg21
  z21 := Tryd.sizeOf21
  v21 := Tryd.zeroValue21
  i21 := by kernel_rfl
  t22 := Tryd.underlying104
  a22 := Tryd.isAgg104
  z22 := Tryd.sizeOf104
  v22 := Tryd.zeroValue104
  i22 := by kernel_rfl
  t24 := Tryd.underlying63
  a24 := Tryd.isAgg63
  z24 := Tryd.sizeOf63
  v24 := Tryd.zeroValue63
  i24 := by kernel_rfl
  t25 := Tryd.underlying106
  a25 := Tryd.isAgg106
  z25 := Tryd.sizeOf106
  v25 := Tryd.zeroValue106
  i25 := by kernel_rfl
  t34 := Tryd.underlying166
  a34 := Tryd.isAgg166
  z34 := Tryd.sizeOf166
  v34 := Tryd.zeroValue166
  i34 := by kernel_rfl
  c34 := by kernel_rfl
  t36 := Tryd.underlying152
  a36 := Tryd.isAgg152
  z36 := Tryd.sizeOf152
  v36 := Tryd.zeroValue152
  i36 := by kernel_rfl
  t37 := Tryd.underlying27
  a37 := Tryd.isAgg27
  z37 := Tryd.sizeOf27
  v37 := Tryd.zeroValue27
  i37 := by kernel_rfl
  t39 := Tryd.underlying168
  a39 := Tryd.isAgg168
  z39 := Tryd.sizeOf168
  v39 := Tryd.zeroValue168
  i39 := by kernel_rfl
  t44 := Tryd.underlying185
  a44 := Tryd.isAgg185
  z44 := Tryd.sizeOf185
  v44 := Tryd.zeroValue185
  i44 := by kernel_rfl
  t47 := Tryd.underlying154
  a47 := Tryd.isAgg154
  z47 := Tryd.sizeOf154
  v47 := Tryd.zeroValue154
  i47 := by kernel_rfl
  t48 := Tryd.underlying141
  a48 := Tryd.isAgg141
  z48 := Tryd.sizeOf141
  v48 := Tryd.zeroValue141
  i48 := by kernel_rfl
  t50 := Tryd.underlying143
  a50 := Tryd.isAgg143
  z50 := Tryd.sizeOf143
  v50 := Tryd.zeroValue143
  i50 := by kernel_rfl
  t52 := Tryd.underlying216
  a52 := Tryd.isAgg216
  z52 := Tryd.sizeOf216
  v52 := Tryd.zeroValue216
  i52 := by kernel_rfl
  t55 := Tryd.underlying219
  a55 := Tryd.isAgg219
  z55 := Tryd.sizeOf219
  v55 := Tryd.zeroValue219
  i55 := by kernel_rfl
  t59 := Tryd.underlying226
  a59 := Tryd.isAgg226
  z59 := Tryd.sizeOf226
  v59 := Tryd.zeroValue226
  i59 := by kernel_rfl
  t60 := Tryd.underlying173
  a60 := Tryd.isAgg173
  z60 := Tryd.sizeOf173
  v60 := Tryd.zeroValue173
  i60 := by kernel_rfl
  t61 := Tryd.underlying227
  a61 := Tryd.isAgg227
  z61 := Tryd.sizeOf227
  t65 := Tryd.underlying235
  a65 := Tryd.isAgg235
  z65 := Tryd.sizeOf235
  v65 := Tryd.zeroValue235
  i65 := by kernel_rfl
  t66 := Tryd.underlying236
  a66 := Tryd.isAgg236
  z66 := Tryd.sizeOf236
  v66 := Tryd.zeroValue236
  i66 := by kernel_rfl
  t67 := Tryd.underlying82
  a67 := Tryd.isAgg82
  z67 := Tryd.sizeOf82
  v67 := Tryd.zeroValue82
  i67 := by kernel_rfl
  g0 := by kernel_rfl
  m0 := by kernel_rfl
  g1 := by kernel_rfl
  m1 := by kernel_rfl
  g2 := by kernel_rfl
  m2 := by kernel_rfl
  g3 := by kernel_rfl
  m3 := by kernel_rfl
  g4 := by kernel_rfl
  m4 := by kernel_rfl }
open Go.RowKit in
/-- strconv.ParseUint(s, 10, 0), AT EVERY STRING THAT SPELLS A uint64 ('Lib.parseUintB 64 s.data.toList = .ok u'): u, AND NO ERROR. (LAID: no walk: one application.) -/
theorem Tryd.strconv_ParseUint_10_at0_ok (s : ByteArray) (hmax : s.size ≤ 9223372036854775806) (u : Nat) (h : Lib.parseUintB 64 s.data.toList = .ok u) (w : World) :
    Calls Tryd.prog 72 #[.string s, .int .i64 10, .int .i64 0] w fun e w' => e = .returned (.tuple #[.int .u64 u, .nilIface]) ∧ (w' = w ∨ w' = Lib.bytesWorld w 5 s) := Any.strconv_ParseUint_10_at0_ok Tryd.laysPu14 s hmax u h w
open Go.RowKit in
theorem Tryd.strconv_ParseUint_10_at0_range_var (s : ByteArray) (hlim : s.size ≤ 281474976710656) (h : Lib.parseUintB 64 s.data.toList = .range) (tp : TypeId) (p : Value) (w : World) (hvar : w.var? Tryd.prog "strconv.ErrRange" = some #[.iface tp p]) :
    Calls Tryd.prog 72 #[.string s, .int .i64 10, .int .i64 0] w fun e w' => ∃ N, e = .returned (.tuple #[.int .u64 18446744073709551615, .iface 168 (.pointer (some ⟨N, 0, none⟩))]) ∧ w.heap.size ≤ N ∧ w'.heap[N]? = some (.cells #[.string ⟨#[80, 97, 114, 115, 101, 85, 105, 110, 116]⟩, .string s, .iface tp p] 185 (0, 0)) ∧ Below w.heap.size w w' := Any.strconv_ParseUint_10_at0_range_var Tryd.laysPu14 s hlim h tp p w hvar
end Go.Proofs
