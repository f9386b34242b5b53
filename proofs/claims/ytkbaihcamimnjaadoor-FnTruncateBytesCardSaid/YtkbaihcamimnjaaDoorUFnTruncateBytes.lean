/- FnTruncateBytes in plain Lean: nothing is left. -/
import Derived.Test.YtkbaihcamimnjaaDoorHLTruncB
set_option linter.unusedVariables false
set_option linter.unusedSimpArgs false
namespace Go.Proofs.YtkbaihcamimnjaaDoor.Q
open Go.RowKit Go.Proofs.YtkbaihcamimnjaaDoorW.PrintWords Go.Proofs.YtkbaihcamimnjaaDoorW.PrintLast Go.Proofs.YtkbaihcamimnjaaDoorW.PrintMore
theorem laws_FnTruncateBytes.pure : ∀ (a0 : ByteArray) (a1 : Int), a0.size ≤ 140737488351232 → (Lit.int .i64 a1).wf = true → laws_FnTruncateBytes.f a0 a1 = some true := fun _ _ _ _ => rfl
end Go.Proofs.YtkbaihcamimnjaaDoor.Q
