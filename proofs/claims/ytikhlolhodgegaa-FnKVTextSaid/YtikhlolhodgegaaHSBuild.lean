/- Contracts of the library's functions, laid by the kit's lay-shelf at this seat's program. -/
import Derived.Shelf.Strings.Builder1
import Derived.Shelf.Small.Bits
import Derived.Shelf.Strings.BuilderF
import Derived.Shelf.Strings.BuilderK
import Derived.Shelf.Strings.BuilderRune
import Derived.Shelf.Strconv.Itoa0
import Derived.Shelf.Sort.Plain
import Derived.Ground.GgtProg
import Derived.Shelf.GgSortMore.Iface
import Derived.Shelf.GgSortMore.IfaceD
import Derived.Shelf.GgSortMore.IfacePart
import Derived.Shelf.GgSortMore.IfacePdq
import Derived.Shelf.GgSortMore.SortSort
import Derived.Shelf.Slices.In.SortNone
import Derived.Shelf.Slices.In.SortNone2
import Derived.Ground.GgsProg
import Derived.Shelf.SlSortFunc.Xorshift
import Derived.Shelf.SlSortIface.SiftDown
import Derived.Shelf.SlSortIface.HeapSort
import Derived.Shelf.SlSortIface.PartialInsertion
import Derived.Test.YtikhlolhodgegaaProg
set_option linter.unusedVariables false
set_option linter.unusedSimpArgs false
namespace Go.Proofs
open Go.Shelf
def Try.lays169_ren : Go.Shelf.Ren := ⟨fun | 169 => 87 | n => n, fun | 70 => 118 | 9 => 9 | 0 => 0 | 72 => 120 | 37 => 48 | 127 => 143 | 3 => 3 | 5 => 5 | n => n, fun | n => n⟩
theorem Try.lays169 : Go.Proofs.Lays.n169 Try.prog Try.lays169_ren := {
  mixed := by kernel_rfl
  f169 := Try.func87.trans (congrArg some (by kernel_rfl))
  t0 := Try.underlying0
  a0 := Try.isAgg0
  z0 := Try.sizeOf0
  v0 := Try.zeroValue0
  t3 := Try.underlying3
  a3 := Try.isAgg3
  z3 := Try.sizeOf3
  v3 := Try.zeroValue3
  t9 := Try.underlying9
  a9 := Try.isAgg9
  z9 := Try.sizeOf9
  v9 := Try.zeroValue9
  t37 := Try.underlying48
  a37 := Try.isAgg48
  z37 := Try.sizeOf48
  v37 := Try.zeroValue48
  t70 := Try.underlying118
  a70 := Try.isAgg118
  z70 := Try.sizeOf118
  v70 := Try.zeroValue118
  t72 := Try.underlying120
  a72 := Try.isAgg120
  z72 := Try.sizeOf120
  v72 := Try.zeroValue120
  t127 := Try.underlying143
  a127 := Try.isAgg143
  z127 := Try.sizeOf143
  v127 := Try.zeroValue143 }
theorem Try.Builder_Extra_169 : Builder.Extra Try.prog Try.lays169_ren where
  sizeBuilder := by kernel_rfl
  liesBuilder := by kernel_rfl
  t5 := Try.underlying5
  a5 := Try.isAgg5
  z5 := Try.sizeOf5
  v5 := Try.zeroValue5
  infoByte := by kernel_rfl
  cellsByte := by kernel_rfl
  sizeByte := by kernel_rfl
  neB5 := by decide
open Go.RowKit in
/-- (*strings.Builder).String: "String returns the accumulated string.": WHATEVER THE BUILDER HOLDS. (LAID: no walk: one application.) -/
theorem Try.Builder_String_any (B b : Nat) (l : List UInt8) (w : World) (h : Lib.IsBuilder 120 5 B b (Lib.byteCells l) w) (hBw : B ≤ w.heap.size) :
    Calls Try.prog 87 #[.pointer (some ⟨b, 0, none⟩)] w fun e w' => e = .returned (.string ⟨l.toArray⟩) ∧ Below B w w' := Any.Builder_String_any Try.lays169 Try.Builder_Extra_169 B b l w h hBw
end Go.Proofs
