/- How many bytes the model's decoder takes: at least one, and no more than there are. No condition. -/
import Derived.Test.YtkbaihcamimnjaaDoorHKinds
set_option linter.unusedVariables false
set_option linter.unusedSimpArgs false
namespace Go.Proofs.YtkbaihcamimnjaaDoor.Q
open Go.RowKit Go.Proofs.YtkbaihcamimnjaaDoorW.PrintWords
theorem decode_wide (s : ByteArray) (pos : Nat) : 1 ≤ (Utf8.decode s pos).2 := by
  unfold Utf8.decode
  dsimp only
  (repeat' split) <;> simp
theorem decode_fits (s : ByteArray) (pos : Nat) (h : pos < s.size) : 0 < (Utf8.decode s pos).2 ∧ pos + (Utf8.decode s pos).2 ≤ s.size := by
  refine ⟨decode_wide s pos, ?_⟩
  unfold Utf8.decode
  dsimp only
  (repeat' split) <;> simp_all <;> omega
end Go.Proofs.YtkbaihcamimnjaaDoor.Q
