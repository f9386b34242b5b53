/- How this seat's arguments, if they can be read as data, are laid open as values of their kinds. No condition. -/
import Derived.Test.YtlpcbmgleecafaaDoorHKinds
set_option linter.unusedVariables false
set_option linter.unusedSimpArgs false
namespace Go.Proofs.YtlpcbmgleecafaaDoor.Q
open Go.RowKit Go.Proofs.YtlpcbmgleecafaaDoorW.PrintWords Go.Proofs.YtlpcbmgleecafaaDoorW.PrintLast Go.Proofs.YtlpcbmgleecafaaDoorW.PrintMore
end Go.Proofs.YtlpcbmgleecafaaDoor.Q
