/- FnUnderscored in plain Lean: nothing is left. -/
import Derived.Test.YtkbaihcamimnjaaDoorHLUnder
set_option linter.unusedVariables false
set_option linter.unusedSimpArgs false
namespace Go.Proofs.YtkbaihcamimnjaaDoor.Q
open Go.RowKit Go.Proofs.YtkbaihcamimnjaaDoorW.PrintWords Go.Proofs.YtkbaihcamimnjaaDoorW.PrintLast Go.Proofs.YtkbaihcamimnjaaDoorW.PrintMore
theorem laws_FnUnderscored.pure : ∀ (a0 : ByteArray), a0.size ≤ 140737488351232 → laws_FnUnderscored.f a0 = some true := fun _ _ => rfl
end Go.Proofs.YtkbaihcamimnjaaDoor.Q
