/- Contracts of the library's functions, laid by the kit's lay-shelf at this seat's program. -/
import Derived.Shelf.Strings.Builder1
import Derived.Shelf.Strings.Builder2
import Derived.Shelf.Small.Utf8
import Derived.Shelf.Strings.BuilderF
import Derived.Shelf.Strings.BuilderK
import Derived.Shelf.Strings.BuilderRune
import Derived.Shelf.Strings.Builder2Cap
import Derived.Shelf.Strconv.Itoa0
import Derived.Shelf.Strconv.Itoa1
import Derived.Shelf.LaysM
import Derived.Shelf.Strconv.Itoa2
import Derived.Shelf.Strconv.Itoa3
import Derived.Shelf.Strconv.Itoa4
import Derived.Shelf.Strings.Prefix
import Derived.Shelf.Bits.Mul64
import Derived.Shelf.Strings.Repeat
import Derived.Shelf.Slices.Turned
import Derived.Test.YtkbaihcamimnjaaDoorProg
set_option linter.unusedVariables false
set_option linter.unusedSimpArgs false
namespace Go.Proofs
open Go.Shelf
def Tryd.lays105_ren : Go.Shelf.Ren := ⟨fun | 105 => 52 | 212 => 59 | 99 => 60 | 165 => 61 | 166 => 47 | 170 => 62 | 169 => 46 | 263 => 69 | 264 => 70 | 206 => 71 | 240 => 56 | 241 => 72 | 276 => 63 | 277 => 78 | n => n, fun | 9 => 9 | 3 => 3 | 4 => 4 | 20 => 20 | 0 => 0 | 46 => 61 | 109 => 90 | 5 => 5 | 72 => 73 | 76 => 75 | 51 => 99 | 146 => 105 | 53 => 70 | 148 => 107 | 70 => 71 | 37 => 31 | 75 => 42 | 127 => 89 | 164 => 97 | 80 => 77 | n => n, fun | n => n⟩
theorem Tryd.lays105 : Go.Proofs.Lays.n105 Tryd.prog Tryd.lays105_ren := {
  mixed := by kernel_rfl
  f99 := Tryd.func60.trans (congrArg some (by kernel_rfl))
  f105 := Tryd.func52.trans (congrArg some (by kernel_rfl))
  f165 := Tryd.func61.trans (congrArg some (by kernel_rfl))
  f166 := Tryd.func47.trans (congrArg some (by kernel_rfl))
  f169 := Tryd.func46.trans (congrArg some (by kernel_rfl))
  f170 := Tryd.func62.trans (congrArg some (by kernel_rfl))
  f206 := Tryd.func71.trans (congrArg some (by kernel_rfl))
  f212 := Tryd.func59.trans (congrArg some (by kernel_rfl))
  f240 := Tryd.func56.trans (congrArg some (by kernel_rfl))
  f241 := Tryd.func72.trans (congrArg some (by kernel_rfl))
  f263 := Tryd.func69.trans (congrArg some (by kernel_rfl))
  f264 := Tryd.func70.trans (congrArg some (by kernel_rfl))
  f276 := Tryd.func63.trans (congrArg some (by kernel_rfl))
  f277 := Tryd.func78.trans (congrArg some (by kernel_rfl))
  t0 := Tryd.underlying0
  a0 := Tryd.isAgg0
  z0 := Tryd.sizeOf0
  v0 := Tryd.zeroValue0
  t3 := Tryd.underlying3
  a3 := Tryd.isAgg3
  z3 := Tryd.sizeOf3
  v3 := Tryd.zeroValue3
  t4 := Tryd.underlying4
  a4 := Tryd.isAgg4
  z4 := Tryd.sizeOf4
  v4 := Tryd.zeroValue4
  t5 := Tryd.underlying5
  a5 := Tryd.isAgg5
  z5 := Tryd.sizeOf5
  v5 := Tryd.zeroValue5
  t9 := Tryd.underlying9
  a9 := Tryd.isAgg9
  z9 := Tryd.sizeOf9
  v9 := Tryd.zeroValue9
  t20 := Tryd.underlying20
  a20 := Tryd.isAgg20
  z20 := Tryd.sizeOf20
  v20 := Tryd.zeroValue20
  t37 := Tryd.underlying31
  a37 := Tryd.isAgg31
  z37 := Tryd.sizeOf31
  v37 := Tryd.zeroValue31
  t46 := Tryd.underlying61
  a46 := Tryd.isAgg61
  z46 := Tryd.sizeOf61
  v46 := Tryd.zeroValue61
  t51 := Tryd.underlying99
  a51 := Tryd.isAgg99
  z51 := Tryd.sizeOf99
  v51 := Tryd.zeroValue99
  t53 := Tryd.underlying70
  a53 := Tryd.isAgg70
  z53 := Tryd.sizeOf70
  v53 := Tryd.zeroValue70
  t70 := Tryd.underlying71
  a70 := Tryd.isAgg71
  z70 := Tryd.sizeOf71
  v70 := Tryd.zeroValue71
  t72 := Tryd.underlying73
  a72 := Tryd.isAgg73
  z72 := Tryd.sizeOf73
  v72 := Tryd.zeroValue73
  t75 := Tryd.underlying42
  a75 := Tryd.isAgg42
  z75 := Tryd.sizeOf42
  v75 := Tryd.zeroValue42
  t76 := Tryd.underlying75
  a76 := Tryd.isAgg75
  z76 := Tryd.sizeOf75
  v76 := Tryd.zeroValue75
  t109 := Tryd.underlying90
  a109 := Tryd.isAgg90
  z109 := Tryd.sizeOf90
  v109 := Tryd.zeroValue90
  t127 := Tryd.underlying89
  a127 := Tryd.isAgg89
  z127 := Tryd.sizeOf89
  v127 := Tryd.zeroValue89
  t146 := Tryd.underlying105
  a146 := Tryd.isAgg105
  z146 := Tryd.sizeOf105
  v146 := Tryd.zeroValue105
  t148 := Tryd.underlying107
  a148 := Tryd.isAgg107
  z148 := Tryd.sizeOf107
  v148 := Tryd.zeroValue107
  t164 := Tryd.underlying97
  a164 := Tryd.isAgg97
  z164 := Tryd.sizeOf97
  v164 := Tryd.zeroValue97 }
theorem Tryd.Builder_Extra_105 : Builder.Extra Tryd.prog Tryd.lays105_ren where
  sizeBuilder := by kernel_rfl
  liesBuilder := by kernel_rfl
  t5 := Tryd.underlying5
  a5 := Tryd.isAgg5
  z5 := Tryd.sizeOf5
  v5 := Tryd.zeroValue5
  infoByte := by kernel_rfl
  cellsByte := by kernel_rfl
  sizeByte := by kernel_rfl
  neB5 := by decide
open Go.RowKit Go.Lib in
/-- **strings.Repeat: count ≥ 0, the result within one allocation: count copies of s.** (LAID: no walk: one application.) -/
theorem Tryd.strings_Repeat (s : ByteArray) (c : Nat) (w : World) (hc : c ≤ 9223372036854775807) (hlen : s.size * c ≤ 140737488355328) :
    Calls Tryd.prog 52 #[.string s, .int .i64 c] w fun e w' => e = .returned (.string ⟨(Lib.repeatL s.data.toList c).toArray⟩) ∧ Below w.heap.size w w' := Any.strings_Repeat Tryd.lays105 Tryd.Builder_Extra_105 s c w hc hlen
end Go.Proofs
