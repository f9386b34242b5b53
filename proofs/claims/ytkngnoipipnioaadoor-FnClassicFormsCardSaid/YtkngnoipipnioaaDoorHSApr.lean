/- Contracts of the library's functions, laid by the kit's lay-shelf at this seat's program. -/
import Derived.Shelf.Strings.Builder1
import Derived.Shelf.Small.Utf8
import Derived.Shelf.Strings.BuilderF
import Derived.Shelf.Strings.BuilderK
import Derived.Shelf.Strings.BuilderRune
import Derived.Shelf.Utf8.AppendRunePlain
import Derived.Shelf.Unicode.Latin
import Derived.Shelf.Unicode.DecodeSlow
import Derived.Shelf.Unicode.DecodeAny
import Derived.Shelf.Unicode.Is16White
import Derived.Shelf.Unicode.IsSpaceAny
import Derived.Shelf.Unicode.Is16Any
import Derived.Shelf.Unicode.Is32Any
import Derived.Shelf.Unicode.ExclAny
import Derived.Test.YtkngnoipipnioaaDoorProg
set_option linter.unusedVariables false
set_option linter.unusedSimpArgs false
namespace Go.Proofs
open Go.Shelf
def Tryd.lays242_ren : Go.Shelf.Ren := ⟨fun | 242 => 61 | 278 => 73 | n => n, fun | 37 => 22 | 21 => 21 | 51 => 101 | 4 => 4 | 5 => 5 | 46 => 90 | n => n, fun | n => n⟩
theorem Tryd.lays242 : Go.Proofs.Lays.n242 Tryd.prog Tryd.lays242_ren := {
  mixed := by kernel_rfl
  f242 := Tryd.func61.trans (congrArg some (by kernel_rfl))
  f278 := Tryd.func73.trans (congrArg some (by kernel_rfl))
  t4 := Tryd.underlying4
  a4 := Tryd.isAgg4
  z4 := Tryd.sizeOf4
  v4 := Tryd.zeroValue4
  t5 := Tryd.underlying5
  a5 := Tryd.isAgg5
  z5 := Tryd.sizeOf5
  v5 := Tryd.zeroValue5
  t21 := Tryd.underlying21
  a21 := Tryd.isAgg21
  z21 := Tryd.sizeOf21
  v21 := Tryd.zeroValue21
  t37 := Tryd.underlying22
  a37 := Tryd.isAgg22
  z37 := Tryd.sizeOf22
  v37 := Tryd.zeroValue22
  t46 := Tryd.underlying90
  a46 := Tryd.isAgg90
  z46 := Tryd.sizeOf90
  v46 := Tryd.zeroValue90
  t51 := Tryd.underlying101
  a51 := Tryd.isAgg101
  z51 := Tryd.sizeOf101
  v51 := Tryd.zeroValue101 }
open Go.RowKit in
/-- unicode/utf8.AppendRune: "AppendRune appends the UTF-8 encoding of r to the end of p and returns the extended buffer. If the rune is out of range, it appends the encoding of RuneError.": ONTO A ROW OF BYTES THAT THE CALL OWNS (its head frozen or not): EVERY int32: 'Lib.runeCells r' goes in behind what the row holds; the world: one new block (the bytes as the call's variadic argument), then what 'append' does to the row. (LAID: no walk: one application.) -/
theorem Tryd.utf8_AppendRune_plain (B : Nat) (v : Value) (n : Nat) (xs : List Value) (r : Int) (hr0 : -2147483648 ≤ r) (hr1 : r ≤ 2147483647) (w : World) (hown : w.ownsRow B 5 1 v n xs) (hlen : n + 4 ≤ 140737488355328) (hBw : B ≤ w.heap.size) :
    Calls Tryd.prog 61 #[v, .int .i32 r] w fun e w' => ∃ v', e = .returned v' ∧ w'.ownsRow B 5 1 v' (n + (Lib.runeCells r).length) (xs ++ Lib.runeCells r) ∧ ∃ o, (w.alloc o).grownBy w' v.ownBlock := Any.utf8_AppendRune_plain Tryd.lays242 (by kernel_rfl) B v n xs r hr0 hr1 w hown hlen hBw
end Go.Proofs
