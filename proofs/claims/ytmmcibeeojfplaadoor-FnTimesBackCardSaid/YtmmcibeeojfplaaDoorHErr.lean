/- errors.New: a new error, never nil. No condition. -/
import Derived.Test.YtmmcibeeojfplaaDoorHKinds
set_option linter.unusedVariables false
set_option linter.unusedSimpArgs false
namespace Go.Proofs.YtmmcibeeojfplaaDoor.Q
open Go.RowKit Go.Proofs.YtmmcibeeojfplaaDoorW.PrintWords Go.Proofs.YtmmcibeeojfplaaDoorW.PrintLast Go.Proofs.YtmmcibeeojfplaaDoorW.PrintMore
attribute [local go_sem] max2_int min2_int max_two min_two max_three min_three max_four min_four
set_option maxHeartbeats 400000 in
theorem errNew_calls (s : ByteArray) (w : World) : Calls Tryd.prog 70 #[.string s] w fun e w' => ∃ g, e = .returned (.iface 141 (.pointer (some ⟨g, 0, none⟩))) ∧ Below w.heap.size w w' := by
  have hu := Tryd.underlying143
  go_enter Tryd.func70, Tryd.ntmps70
  go_wp2
  go_ret
  exact ⟨_, rfl, by repeat (first | exact Below.refl _ _ | apply below_alloc | apply below_drew | apply pw_below_drewN)⟩
def errIs (ok : Bool) (v : Value) : Prop := match ok with | true => v = .nilIface | false => ∃ g, v = .iface 141 (.pointer (some ⟨g, 0, none⟩))
theorem IsB_drewN_heap (w : World) (n : Nat) : (w.drewN n).heap = w.heap := by simp
end Go.Proofs.YtmmcibeeojfplaaDoor.Q
