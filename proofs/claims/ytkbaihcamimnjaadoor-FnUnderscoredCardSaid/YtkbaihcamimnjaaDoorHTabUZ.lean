/- Two listed facts together: the tables of unicode/utf8, and that of math/bits.TrailingZeros64. No condition. -/
import Derived.Test.YtkbaihcamimnjaaDoorHTabU
import Derived.Test.YtkbaihcamimnjaaDoorHTabZ
set_option linter.unusedVariables false
set_option linter.unusedSimpArgs false
namespace Go.Proofs.YtkbaihcamimnjaaDoor.Q
open Go.RowKit Go.Lib
abbrev TBuz (w : World) : Prop := TBu w ∧ TBz w
theorem TBuz.below {w w' : World} (h : TBuz w) (hb : Below w.heap.size w w') : TBuz w' := ⟨TBu.below h.1 hb, TBz.below h.2 hb⟩
theorem TBuz.of_laid {l : List (String × DataW Unit)} {w : World} (h : laidMetH Tryd.prog l w) (hp : (l.all fun x => x.2.handleName?.isNone) = true) (i j k : Nat) (hm : l[i]? = some ("unicode/utf8.first", firstData)) (hn : l[j]? = some ("unicode/utf8.acceptRanges", acceptData)) (hk : l[k]? = some ("math/bits.deBruijn64tab", tabData .u8 tabZ)) : TBuz w :=
  ⟨TBu.of_laid h hp i j hm hn, TBz.of_laid h hp k hk⟩
end Go.Proofs.YtkbaihcamimnjaaDoor.Q
