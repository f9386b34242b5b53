/- What a row's listed variables say of the tables that a lexer reads: those of unicode/utf8 and the white space of package unicode. No condition. -/
import Derived.Test.YtlpcbmgleecafaaDoorHTabU
import Derived.Test.YtlpcbmgleecafaaDoorHSDec
set_option linter.unusedVariables false
set_option linter.unusedSimpArgs false
namespace Go.Proofs.YtlpcbmgleecafaaDoor.Q
open Go.RowKit Go.Lib Go.Shelf
def TBw (w : World) : Prop := Lib.WhiteTab 0 w
abbrev TBl (w : World) : Prop := TBu w ∧ TBw w
end Go.Proofs.YtlpcbmgleecafaaDoor.Q
