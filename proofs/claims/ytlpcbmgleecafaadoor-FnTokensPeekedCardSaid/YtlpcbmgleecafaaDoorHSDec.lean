/- Contracts of the library's functions, laid by the kit's lay-shelf at this seat's program. -/
import Derived.Shelf.Unicode.Latin
import Derived.Shelf.Unicode.DecodeSlow
import Derived.Shelf.Unicode.DecodeAny
import Derived.Shelf.Unicode.Is16White
import Derived.Shelf.Unicode.IsSpaceAny
import Derived.Shelf.Unicode.Is16Any
import Derived.Shelf.Unicode.Is32Any
import Derived.Shelf.Unicode.ExclAny
import Derived.Test.YtlpcbmgleecafaaDoorProg
set_option linter.unusedVariables false
set_option linter.unusedSimpArgs false
namespace Go.Proofs
open Go.Shelf
def Tryd.lays199_ren : Go.Shelf.Ren := ⟨fun | 199 => 32 | 261 => 41 | 311 => 44 | 312 => 45 | n => n, fun | 21 => 21 | 4 => 4 | 51 => 77 | 141 => 79 | 0 => 0 | 196 => 84 | 193 => 81 | 3 => 3 | 198 => 87 | 49 => 85 | 194 => 82 | 201 => 90 | 226 => 97 | 46 => 93 | 227 => 98 | n => n, fun | 6 => 0 | n => n⟩
theorem Tryd.lays199 : Go.Proofs.Lays.n199 Tryd.prog Tryd.lays199_ren := {
  mixed := by kernel_rfl
  f199 := Tryd.func32.trans (congrArg some (by kernel_rfl))
  f261 := Tryd.func41.trans (congrArg some (by kernel_rfl))
  f311 := Tryd.func44.trans (congrArg some (by kernel_rfl))
  f312 := Tryd.func45.trans (congrArg some (by kernel_rfl))
  t0 := Tryd.underlying0
  a0 := Tryd.isAgg0
  z0 := Tryd.sizeOf0
  v0 := Tryd.zeroValue0
  t3 := Tryd.underlying3
  a3 := Tryd.isAgg3
  z3 := Tryd.sizeOf3
  v3 := Tryd.zeroValue3
  t4 := Tryd.underlying4
  a4 := Tryd.isAgg4
  z4 := Tryd.sizeOf4
  v4 := Tryd.zeroValue4
  t21 := Tryd.underlying21
  a21 := Tryd.isAgg21
  z21 := Tryd.sizeOf21
  v21 := Tryd.zeroValue21
  t46 := Tryd.underlying93
  a46 := Tryd.isAgg93
  z46 := Tryd.sizeOf93
  v46 := Tryd.zeroValue93
  t49 := Tryd.underlying85
  a49 := Tryd.isAgg85
  z49 := Tryd.sizeOf85
  v49 := Tryd.zeroValue85
  t51 := Tryd.underlying77
  a51 := Tryd.isAgg77
  z51 := Tryd.sizeOf77
  v51 := Tryd.zeroValue77
  t141 := Tryd.underlying79
  a141 := Tryd.isAgg79
  z141 := Tryd.sizeOf79
  v141 := Tryd.zeroValue79
  t193 := Tryd.underlying81
  a193 := Tryd.isAgg81
  z193 := Tryd.sizeOf81
  v193 := Tryd.zeroValue81
  t194 := Tryd.underlying82
  a194 := Tryd.isAgg82
  z194 := Tryd.sizeOf82
  v194 := Tryd.zeroValue82
  t196 := Tryd.underlying84
  a196 := Tryd.isAgg84
  z196 := Tryd.sizeOf84
  v196 := Tryd.zeroValue84
  t198 := Tryd.underlying87
  a198 := Tryd.isAgg87
  z198 := Tryd.sizeOf87
  v198 := Tryd.zeroValue87
  t201 := Tryd.underlying90
  a201 := Tryd.isAgg90
  z201 := Tryd.sizeOf90
  v201 := Tryd.zeroValue90
  t226 := Tryd.underlying97
  a226 := Tryd.isAgg97
  z226 := Tryd.sizeOf97
  v226 := Tryd.zeroValue97
  t227 := Tryd.underlying98
  a227 := Tryd.isAgg98
  z227 := Tryd.sizeOf98
  v227 := Tryd.zeroValue98
  g6 := by kernel_rfl }
def Tryd.lays197_ren : Go.Shelf.Ren := ⟨fun | 197 => 37 | 260 => 42 | n => n, fun | 9 => 9 | 21 => 21 | 3 => 3 | 4 => 4 | 5 => 5 | 105 => 69 | 119 => 92 | 0 => 0 | 46 => 93 | 139 => 96 | 138 => 95 | n => n, fun | 3 => 1 | 4 => 2 | n => n⟩
theorem Tryd.lays197 : Go.Proofs.Lays.n197 Tryd.prog Tryd.lays197_ren := {
  mixed := by kernel_rfl
  f197 := Tryd.func37.trans (congrArg some (by kernel_rfl))
  f260 := Tryd.func42.trans (congrArg some (by kernel_rfl))
  t0 := Tryd.underlying0
  a0 := Tryd.isAgg0
  z0 := Tryd.sizeOf0
  v0 := Tryd.zeroValue0
  t3 := Tryd.underlying3
  a3 := Tryd.isAgg3
  z3 := Tryd.sizeOf3
  v3 := Tryd.zeroValue3
  t4 := Tryd.underlying4
  a4 := Tryd.isAgg4
  z4 := Tryd.sizeOf4
  v4 := Tryd.zeroValue4
  t5 := Tryd.underlying5
  a5 := Tryd.isAgg5
  z5 := Tryd.sizeOf5
  v5 := Tryd.zeroValue5
  t9 := Tryd.underlying9
  a9 := Tryd.isAgg9
  z9 := Tryd.sizeOf9
  v9 := Tryd.zeroValue9
  t21 := Tryd.underlying21
  a21 := Tryd.isAgg21
  z21 := Tryd.sizeOf21
  v21 := Tryd.zeroValue21
  t46 := Tryd.underlying93
  a46 := Tryd.isAgg93
  z46 := Tryd.sizeOf93
  v46 := Tryd.zeroValue93
  t105 := Tryd.underlying69
  a105 := Tryd.isAgg69
  z105 := Tryd.sizeOf69
  v105 := Tryd.zeroValue69
  t119 := Tryd.underlying92
  a119 := Tryd.isAgg92
  z119 := Tryd.sizeOf92
  t138 := Tryd.underlying95
  a138 := Tryd.isAgg95
  z138 := Tryd.sizeOf95
  v138 := Tryd.zeroValue95
  t139 := Tryd.underlying96
  a139 := Tryd.isAgg96
  z139 := Tryd.sizeOf96
  v139 := Tryd.zeroValue96
  g3 := by kernel_rfl
  g4 := by kernel_rfl }
open Go.RowKit Go.Lib in
/-- **unicode/utf8.DecodeRuneInString AT EVERY STRING.** (LAID: no walk: one application.) -/
theorem Tryd.utf8_DecodeRuneInString (s : ByteArray) (w : World) (hT : Lib.Utf8Tabs 1 2 w) :
    Calls Tryd.prog 37 #[.string s] w fun e w' => e = .returned (.tuple #[.int .i32 (Lib.decodeGo s).1, .int .i64 (Lib.decodeGo s).2]) ∧ Below w.heap.size w w' := Any.utf8_DecodeRuneInString Tryd.lays197 s w hT
open Go.RowKit Go.Lib in
/-- **unicode.IsSpace AT EVERY int32.** (LAID: no walk: one application.) -/
theorem Tryd.unicode_IsSpace_any (r : Int) (w : World) (hlo : -2147483648 ≤ r) (hhi : r ≤ 2147483647) (hW : Lib.WhiteTab 0 w) :
    Calls Tryd.prog 32 #[.int .i32 r] w fun e w' => e = .returned (.bool (Lib.isSpaceZ r)) ∧ Below w.heap.size w w' := Any.unicode_IsSpace_any Tryd.lays199 r w hlo hhi hW
end Go.Proofs
