/- Plain words: what the parser's laws share. No condition. -/
import Derived.Test.YtnnhehlieakedaaGreatDoorUParGM
import Derived.Test.YtnnhehlieakedaaGreatDoorQlawseqMatchers
import Derived.Test.YtnnhehlieakedaaGreatDoorQlawshas
import Derived.Test.YtnnhehlieakedaaGreatDoorQlawsone
set_option linter.unusedVariables false
set_option linter.unusedSimpArgs false
namespace Go.Proofs.YtnnhehlieakedaaGreatDoor.Q
open Go.RowKit Go.Lib Go.Proofs.YtnnhehlieakedaaGreatDoorW.PrintWords Go.Proofs.YtnnhehlieakedaaGreatDoorW.PrintLast Go.Proofs.YtnnhehlieakedaaGreatDoorW.PrintMore
theorem wrapQ (i : Nat) (h : i < 9223372036854775806) : wrap64 ((i : Int) + 1) = ((i + 1 : Nat) : Int) := by
  unfold wrap64
  omega
set_option maxRecDepth 100000 in
theorem one_f : laws_one.f = some true := by kernel_rfl
theorem p1_f (a0 : ByteArray) (h : a0.size ≤ 1000000) : impl_ParseMatcher.f a0 = some (p1R a0) := if_pos h
end Go.Proofs.YtnnhehlieakedaaGreatDoor.Q
