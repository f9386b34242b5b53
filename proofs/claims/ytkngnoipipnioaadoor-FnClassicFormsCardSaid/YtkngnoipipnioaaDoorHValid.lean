/- unicode/utf8.ValidString by the shelf's contract. Condition: the two tables of unicode/utf8 as the library lays them. -/
import Derived.Test.YtkngnoipipnioaaDoorHTabU
import Derived.Ground.NamesProg
import Derived.Shelf.Lay
import Derived.Shelf.Unicode.ValidAny
namespace Go.Proofs
open Go.Shelf
shelf_lay Lays.n196 Nm 196 at Tryd as Tryd.laysValid
namespace YtkngnoipipnioaaDoor.Q
open Go.RowKit Go.Proofs.YtkngnoipipnioaaDoorW.PrintWords
def utf8_ValidString.f (a0 : ByteArray) : Option Bool := if a0.size ≤ 9223372036854775807 then some (Lib.validD a0.data.toList) else none
theorem utf8_ValidString.calls (a0 : ByteArray) (r : Bool) (w : World) (tb : TBu w) (h : utf8_ValidString.f a0 = some r) :
    Calls Tryd.prog 35 #[.string a0] w fun e w' => e = .returned (.bool r) ∧ Below w.heap.size w w' := by
  unfold utf8_ValidString.f at h
  split at h
  case isFalse => cases h
  case isTrue hs =>
  obtain rfl := Option.some.inj h
  exact Any.utf8_ValidString Tryd.laysValid a0 w hs tb
end YtkngnoipipnioaaDoor.Q
end Go.Proofs
