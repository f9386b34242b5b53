/- unicode/utf8.ValidString by the shelf's contract. Condition: the two tables of unicode/utf8 as the library lays them. -/
import Derived.Test.YtkbaihcamimnjaaDoorHTabU
import Derived.Ground.NamesProg
import Derived.Shelf.Unicode.ValidAny
set_option linter.unusedVariables false
set_option linter.unusedSimpArgs false
namespace Go.Proofs
open Go.Shelf
def Tryd.laysValid_ren : Go.Shelf.Ren := ⟨fun | 196 => 15 | 259 => 29 | n => n, fun | 9 => 9 | 4 => 4 | 3 => 3 | 5 => 5 | 12 => 12 | 119 => 57 | 0 => 0 | 46 => 61 | 139 => 60 | 138 => 59 | 53 => 70 | n => n, fun | 3 => 0 | 4 => 1 | n => n⟩
theorem Tryd.laysValid : Go.Proofs.Lays.n196 Tryd.prog Tryd.laysValid_ren := {
  mixed := by kernel_rfl
  f196 := Tryd.func15.trans (congrArg some (by kernel_rfl))
  f259 := Tryd.func29.trans (congrArg some (by kernel_rfl))
  t0 := Tryd.underlying0
  a0 := Tryd.isAgg0
  z0 := Tryd.sizeOf0
  v0 := Tryd.zeroValue0
  t3 := Tryd.underlying3
  a3 := Tryd.isAgg3
  z3 := Tryd.sizeOf3
  v3 := Tryd.zeroValue3
  t4 := Tryd.underlying4
  a4 := Tryd.isAgg4
  z4 := Tryd.sizeOf4
  v4 := Tryd.zeroValue4
  t5 := Tryd.underlying5
  a5 := Tryd.isAgg5
  z5 := Tryd.sizeOf5
  v5 := Tryd.zeroValue5
  t9 := Tryd.underlying9
  a9 := Tryd.isAgg9
  z9 := Tryd.sizeOf9
  v9 := Tryd.zeroValue9
  t12 := Tryd.underlying12
  a12 := Tryd.isAgg12
  z12 := Tryd.sizeOf12
  v12 := Tryd.zeroValue12
  t46 := Tryd.underlying61
  a46 := Tryd.isAgg61
  z46 := Tryd.sizeOf61
  v46 := Tryd.zeroValue61
  t53 := Tryd.underlying70
  a53 := Tryd.isAgg70
  z53 := Tryd.sizeOf70
  v53 := Tryd.zeroValue70
  t119 := Tryd.underlying57
  a119 := Tryd.isAgg57
  z119 := Tryd.sizeOf57
  t138 := Tryd.underlying59
  a138 := Tryd.isAgg59
  z138 := Tryd.sizeOf59
  v138 := Tryd.zeroValue59
  t139 := Tryd.underlying60
  a139 := Tryd.isAgg60
  z139 := Tryd.sizeOf60
  v139 := Tryd.zeroValue60
  g3 := by kernel_rfl
  g4 := by kernel_rfl }
namespace YtkbaihcamimnjaaDoor.Q
open Go.RowKit Go.Proofs.YtkbaihcamimnjaaDoorW.PrintWords
def utf8_ValidString.f (a0 : ByteArray) : Option Bool := if a0.size ≤ 9223372036854775807 then some (Lib.validD a0.data.toList) else none
theorem utf8_ValidString.calls (a0 : ByteArray) (r : Bool) (w : World) (tb : TBu w) (h : utf8_ValidString.f a0 = some r) :
    Calls Tryd.prog 15 #[.string a0] w fun e w' => e = .returned (.bool r) ∧ Below w.heap.size w w' := by
  unfold utf8_ValidString.f at h
  split at h
  case isFalse => cases h
  case isTrue hs =>
  obtain rfl := Option.some.inj h
  exact Any.utf8_ValidString Tryd.laysValid a0 w hs tb
end YtkbaihcamimnjaaDoor.Q
end Go.Proofs
