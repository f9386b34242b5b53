-- Printed for this seat by wip/pp.py of this repo; nothing here is trusted: Lean checks it.
import Derived.Test.YtlpcbmgleecafaaDoorQ0
namespace Go.Proofs.YtlpcbmgleecafaaDoor.Q
open Go.RowKit Go.Proofs.YtlpcbmgleecafaaDoorW.PrintWords Go.Proofs.YtlpcbmgleecafaaDoorW.PrintLast Go.Proofs.YtlpcbmgleecafaaDoorW.PrintMore
attribute [local go_sem] max2_int min2_int max_two min_two max_three min_three max_four min_four   -- for this text's walks alone
set_option linter.unusedVariables false
set_option linter.unusedSimpArgs false

theorem eqA26 (d : Nat) (w : World) (x0 y0 : Int) (x1 y1 : ByteArray) (x2 y2 : Int) (x3 y3 : Int) (x4 y4 : Int) (x5 y5 : Int) :
    (Op.equalIn (d + 2) 26 (.agg #[.int .i64 x0, .string x1, .int .i64 x2, .int .i64 x3, .int .i64 x4, .int .i64 x5]) (.agg #[.int .i64 y0, .string y1, .int .i64 y2, .int .i64 y3, .int .i64 y4, .int .i64 y5])).run Tryd.prog w = .ok (x0 == y0 && (x1.toList == y1.toList && (x2 == y2 && (x3 == y3 && (x4 == y4 && (x5 == y5)))))) w := by
  refine eqA_of Tryd.underlying26 (by kernel_rfl) ?_
  refine eqf_cons (by rfl) (by go_simp; rfl) (by go_simp; rfl) (by go_simp) ?_
  refine eqf_cons (by rfl) (by go_simp; rfl) (by go_simp; rfl) (by go_simp) ?_
  refine eqf_cons (by rfl) (by go_simp; rfl) (by go_simp; rfl) (by go_simp) ?_
  refine eqf_cons (by rfl) (by go_simp; rfl) (by go_simp; rfl) (by go_simp) ?_
  refine eqf_cons (by rfl) (by go_simp; rfl) (by go_simp; rfl) (by go_simp) ?_
  exact eqf_last (by rfl) (by go_simp; rfl) (by go_simp; rfl) (by go_simp)
end Go.Proofs.YtlpcbmgleecafaaDoor.Q
