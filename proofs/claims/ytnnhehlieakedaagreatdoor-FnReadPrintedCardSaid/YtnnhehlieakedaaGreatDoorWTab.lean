-- PRINTED BY print.sh 35421559b90ae4d0a3588c463048766b98c2df88dd9212a6774a882060cdf62d: not written by this session
import Derived.Test.YtnnhehlieakedaaGreatDoorWLast
import Derived.Test.YtnnhehlieakedaaGreatDoorWWords
/-! ### 50. A region's order in a table, made once a region: each step asks the table (numbers alone), not the operations -/
namespace Go.Proofs.YtnnhehlieakedaaGreatDoorW.PrintLast
open Go.Proofs.YtnnhehlieakedaaGreatDoorW.PrintWords (Aside0)
section
variable {md : Region.Mode} {ops : Array Oper} {T : Bool × List (List Nat × List Nat)} {l l' li lj lk : Array Bool} {ds : List Nat} {i j k : Nat}
theorem gd (l : Array Bool) (j : Nat) (b : Bool) : l.getD j b = l.toList.getD j b := by simp [Array.getD_eq_getD_getElem?, List.getD_eq_getElem?_getD]
end
end Go.Proofs.YtnnhehlieakedaaGreatDoorW.PrintLast
