/- Contracts of the library's functions, laid by the kit's lay-shelf at this seat's program. -/
import Derived.Shelf.Small.Utf8
import Derived.Shelf.Strconv.Itoa0
import Derived.Shelf.Strconv.Itoa1
import Derived.Shelf.LaysM
import Derived.Shelf.Strconv.Itoa2
import Derived.Shelf.Strconv.Itoa3
import Derived.Shelf.Strconv.Itoa4
import Derived.Test.YtkbaihcamimnjaaDoorProg
set_option linter.unusedVariables false
set_option linter.unusedSimpArgs false
namespace Go.Proofs
open Go.Shelf
def Tryd.laysM171_ren : Go.Shelf.Ren := ⟨fun | 171 => 42 | 243 => 55 | 246 => 58 | 283 => 65 | 284 => 66 | 285 => 67 | 286 => 68 | 129 => 74 | 317 => 73 | 318 => 75 | 319 => 76 | 320 => 77 | 337 => 79 | 338 => 80 | n => n, fun | 3 => 3 | 9 => 9 | 2 => 2 | 4 => 4 | 171 => 100 | 0 => 0 | 53 => 70 | 37 => 31 | 5 => 5 | 173 => 103 | 212 => 111 | 51 => 99 | 20 => 20 | 213 => 112 | 46 => 61 | 232 => 117 | 233 => 118 | n => n, fun | 17 => 3 | 18 => 5 | 19 => 6 | n => n⟩
theorem Tryd.laysM171 : Go.Proofs.LaysM.n171 Tryd.prog Tryd.laysM171_ren := {
  mixed := by kernel_rfl
  f129 := Tryd.func74.trans (congrArg some (by kernel_rfl))
  f171 := Tryd.func42.trans (congrArg some (by kernel_rfl))
  f243 := Tryd.func55.trans (congrArg some (by kernel_rfl))
  f246 := Tryd.func58.trans (congrArg some (by kernel_rfl))
  f283 := Tryd.func65.trans (congrArg some (by kernel_rfl))
  f284 := Tryd.func66.trans (congrArg some (by kernel_rfl))
  f285 := Tryd.func67.trans (congrArg some (by kernel_rfl))
  f286 := Tryd.func68.trans (congrArg some (by kernel_rfl))
  f317 := Tryd.func73.trans (congrArg some (by kernel_rfl))
  f318 := Tryd.func75.trans (congrArg some (by kernel_rfl))
  f319 := Tryd.func76.trans (congrArg some (by kernel_rfl))
  f320 := Tryd.func77.trans (congrArg some (by kernel_rfl))
  f337 := Tryd.func79.trans (congrArg some (by kernel_rfl))
  f338 := Tryd.func80.trans (congrArg some (by kernel_rfl))
  t0 := Tryd.underlying0
  a0 := Tryd.isAgg0
  z0 := Tryd.sizeOf0
  v0 := Tryd.zeroValue0
  t2 := Tryd.underlying2
  a2 := Tryd.isAgg2
  z2 := Tryd.sizeOf2
  v2 := Tryd.zeroValue2
  t3 := Tryd.underlying3
  a3 := Tryd.isAgg3
  z3 := Tryd.sizeOf3
  v3 := Tryd.zeroValue3
  t4 := Tryd.underlying4
  a4 := Tryd.isAgg4
  z4 := Tryd.sizeOf4
  v4 := Tryd.zeroValue4
  t5 := Tryd.underlying5
  a5 := Tryd.isAgg5
  z5 := Tryd.sizeOf5
  v5 := Tryd.zeroValue5
  t9 := Tryd.underlying9
  a9 := Tryd.isAgg9
  z9 := Tryd.sizeOf9
  v9 := Tryd.zeroValue9
  t20 := Tryd.underlying20
  a20 := Tryd.isAgg20
  z20 := Tryd.sizeOf20
  v20 := Tryd.zeroValue20
  t37 := Tryd.underlying31
  a37 := Tryd.isAgg31
  z37 := Tryd.sizeOf31
  v37 := Tryd.zeroValue31
  t46 := Tryd.underlying61
  a46 := Tryd.isAgg61
  z46 := Tryd.sizeOf61
  v46 := Tryd.zeroValue61
  t51 := Tryd.underlying99
  a51 := Tryd.isAgg99
  z51 := Tryd.sizeOf99
  v51 := Tryd.zeroValue99
  t53 := Tryd.underlying70
  a53 := Tryd.isAgg70
  z53 := Tryd.sizeOf70
  v53 := Tryd.zeroValue70
  t171 := Tryd.underlying100
  a171 := Tryd.isAgg100
  z171 := Tryd.sizeOf100
  v171 := Tryd.zeroValue100
  t173 := Tryd.underlying103
  a173 := Tryd.isAgg103
  z173 := Tryd.sizeOf103
  v173 := Tryd.zeroValue103
  t212 := Tryd.underlying111
  a212 := Tryd.isAgg111
  z212 := Tryd.sizeOf111
  v212 := Tryd.zeroValue111
  t213 := Tryd.underlying112
  a213 := Tryd.isAgg112
  z213 := Tryd.sizeOf112
  t232 := Tryd.underlying117
  a232 := Tryd.isAgg117
  z232 := Tryd.sizeOf117
  v232 := Tryd.zeroValue117
  t233 := Tryd.underlying118
  a233 := Tryd.isAgg118
  z233 := Tryd.sizeOf118
  v233 := Tryd.zeroValue118
  g17 := by kernel_rfl
  g18 := by kernel_rfl
  g19 := by kernel_rfl
  i0 := by kernel_rfl
  i2 := by kernel_rfl
  i3 := by kernel_rfl
  i4 := by kernel_rfl
  i5 := by kernel_rfl
  i9 := by kernel_rfl
  i20 := by kernel_rfl
  i37 := by kernel_rfl
  i46 := by kernel_rfl
  i51 := by kernel_rfl
  i53 := by kernel_rfl
  i171 := by kernel_rfl
  i173 := by kernel_rfl
  i212 := by kernel_rfl
  i232 := by kernel_rfl
  i233 := by kernel_rfl
  m17 := by kernel_rfl
  m18 := by kernel_rfl
  m19 := by kernel_rfl }
open Go.RowKit Go.Sort Go.Lib in
/-- strconv.Itoa: "Itoa is equivalent to FormatInt(int64(i), 10).": i's DECIMAL NUMERAL ('Lib.itoa': a '-' where i is negative, then the digits), FOR EVERY int. The world behind the call: the world before it, new blocks behind the heap (the library's 'var a [24]byte'), draws. (LAID: no walk: one application.) -/
theorem Tryd.strconv_Itoa (n : Int) (h0 : -9223372036854775808 ≤ n) (h1 : n ≤ 9223372036854775807) (w : World) (htab : Lib.TabIs Tryd.prog w "internal/strconv.uint64pow10" .u64 Lib.pow10Tab) :
    Calls Tryd.prog 42 #[.int .i64 n] w fun e w' => e = .returned (.string ⟨(Lib.itoa n).toArray⟩) ∧ ∃ k os, w' = grow (w.drewN k) os := Any.strconv_Itoa Tryd.laysM171 n h0 h1 w htab
end Go.Proofs
