-- Printed for this seat by wip/pp.py of this repo; nothing here is trusted: Lean checks it.
import Derived.Test.YtnnhehlieakedaaGreatDoorQ0
namespace Go.Proofs.YtnnhehlieakedaaGreatDoor.Q
open Go.RowKit Go.Proofs.YtnnhehlieakedaaGreatDoorW.PrintWords Go.Proofs.YtnnhehlieakedaaGreatDoorW.PrintLast Go.Proofs.YtnnhehlieakedaaGreatDoorW.PrintMore
attribute [local go_sem] max2_int min2_int max_two min_two max_three min_three max_four min_four   -- for this text's walks alone
set_option linter.unusedVariables false
set_option linter.unusedSimpArgs false

theorem eqA25 (d : Nat) (w : World) (x0 y0 : Int) (x1 y1 : ByteArray) (x2 y2 : ByteArray) :
    (Op.equalIn (d + 2) 25 (.agg #[.int .i64 x0, .string x1, .string x2]) (.agg #[.int .i64 y0, .string y1, .string y2])).run Tryz.prog w = .ok (x0 == y0 && (x1.toList == y1.toList && (x2.toList == y2.toList))) w := by
  refine eqA_of Tryz.underlying25 (by kernel_rfl) ?_
  refine eqf_cons (by rfl) (by go_simp; rfl) (by go_simp; rfl) (by go_simp) ?_
  refine eqf_cons (by rfl) (by go_simp; rfl) (by go_simp; rfl) (by go_simp) ?_
  exact eqf_last (by rfl) (by go_simp; rfl) (by go_simp; rfl) (by go_simp)
end Go.Proofs.YtnnhehlieakedaaGreatDoor.Q
