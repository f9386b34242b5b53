/- How this seat's arguments, if they can be read as data, are laid open as values of their kinds. No condition. -/
import Derived.Test.YtmmcibeeojfplaaDoorHKinds
set_option linter.unusedVariables false
set_option linter.unusedSimpArgs false
namespace Go.Proofs.YtmmcibeeojfplaaDoor.Q
open Go.RowKit Go.Proofs.YtmmcibeeojfplaaDoorW.PrintWords Go.Proofs.YtmmcibeeojfplaaDoorW.PrintLast Go.Proofs.YtmmcibeeojfplaaDoorW.PrintMore
end Go.Proofs.YtmmcibeeojfplaaDoor.Q
