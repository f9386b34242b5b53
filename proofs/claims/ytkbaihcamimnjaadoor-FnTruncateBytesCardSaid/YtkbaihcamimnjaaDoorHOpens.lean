/- How this seat's arguments, if they can be read as data, are laid open as values of their kinds. No condition. -/
import Derived.Test.YtkbaihcamimnjaaDoorHKinds
set_option linter.unusedVariables false
set_option linter.unusedSimpArgs false
namespace Go.Proofs.YtkbaihcamimnjaaDoor.Q
open Go.RowKit Go.Proofs.YtkbaihcamimnjaaDoorW.PrintWords Go.Proofs.YtkbaihcamimnjaaDoorW.PrintLast Go.Proofs.YtkbaihcamimnjaaDoorW.PrintMore
end Go.Proofs.YtkbaihcamimnjaaDoor.Q
