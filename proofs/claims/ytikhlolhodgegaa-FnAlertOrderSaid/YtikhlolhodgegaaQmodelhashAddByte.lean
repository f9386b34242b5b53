-- Printed for this seat by wip/pp.py of this repo; nothing here is trusted: Lean checks it.
import Derived.Test.YtikhlolhodgegaaQ0
namespace Go.Proofs.Ytikhlolhodgegaa.Q
open Go.RowKit Go.Proofs.YtikhlolhodgegaaW.PrintWords Go.Proofs.YtikhlolhodgegaaW.PrintLast Go.Proofs.YtikhlolhodgegaaW.PrintMore
attribute [local go_sem] max2_int min2_int max_two min_two max_three min_three max_four min_four   -- for this text's walks alone
set_option linter.unusedVariables false
set_option linter.unusedSimpArgs false

/-! ### model_hashAddByte: function 96 -/
def model_hashAddByte.f (a0 : Int) (a1 : Int) : Option (Int) := some (IntKind.u64.wrap ((Go.bits .xor .u64 a0 (IntKind.u64.wrap (a1))) * 1099511628211))
set_option maxHeartbeats 8000000 in
set_option maxRecDepth 100000 in
theorem model_hashAddByte.calls (a0 : Int) (a1 : Int) (r : Int) (w : World) (h : model_hashAddByte.f a0 a1 = some r) :
    Calls Try.prog 96 #[.int .u64 a0, .int .u8 a1] w fun e w' => e = .returned (.int .u64 r) ∧ Drawn0 w w' := by
  have H : (some (IntKind.u64.wrap ((Go.bits .xor .u64 a0 (IntKind.u64.wrap (a1))) * 1099511628211))) = some r := h
  clear h
  obtain rfl := Option.some.inj H
  go_enter Try.func96, Try.ntmps96
  go_wp2
  go_ret
  exact ⟨by first | rfl | (simp; done) | (simp [*]; done) | (simp [*, q_isEmpty]; done) | (simp [*]; exact q_gt _ _ (by assumption)), by repeat (first | exact Drawn0.refl _ | apply Drawn0.step)⟩

end Go.Proofs.Ytikhlolhodgegaa.Q
