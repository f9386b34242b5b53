-- Printed for this seat by wip/pp.py of this repo; nothing here is trusted: Lean checks it.
import Derived.Test.YtkbaihcamimnjaaQ0
namespace Go.Proofs.Ytkbaihcamimnjaa.Q
open Go.RowKit Go.Proofs.YtkbaihcamimnjaaW.PrintWords Go.Proofs.YtkbaihcamimnjaaW.PrintLast Go.Proofs.YtkbaihcamimnjaaW.PrintMore
attribute [local go_sem] max2_int min2_int max_two min_two max_three min_three max_four min_four   -- for this text's walks alone
set_option linter.unusedVariables false
set_option linter.unusedSimpArgs false

/-! ### model_lower: function 20 -/
def model_lower.f (a0 : Int) : Option (Int) := some (Go.bits .or .u8 a0 32)
set_option maxHeartbeats 8000000 in
set_option maxRecDepth 100000 in
theorem model_lower.calls (a0 : Int) (r : Int) (w : World) (h : model_lower.f a0 = some r) :
    Calls Try.prog 20 #[.int .u8 a0] w fun e w' => e = .returned (.int .u8 r) ∧ Drawn0 w w' := by
  have H : (some (Go.bits .or .u8 a0 32)) = some r := h
  clear h
  obtain rfl := Option.some.inj H
  go_enter Try.func20, Try.ntmps20
  go_wp2
  go_ret
  exact ⟨by first | rfl | (simp; done) | (simp [*]; done) | (simp [*, q_isEmpty]; done) | (simp [*]; exact q_gt _ _ (by assumption)), by repeat (first | exact Drawn0.refl _ | apply Drawn0.step)⟩

end Go.Proofs.Ytkbaihcamimnjaa.Q
