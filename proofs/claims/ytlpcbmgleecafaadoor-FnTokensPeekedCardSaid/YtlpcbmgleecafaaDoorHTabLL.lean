/- What a row's listed variables say of the tables that a lexer reads. No condition. -/
import Derived.Test.YtlpcbmgleecafaaDoorHTabL
import Derived.Lib.LaidU8
set_option linter.unusedVariables false
set_option linter.unusedSimpArgs false
namespace Go.Proofs.YtlpcbmgleecafaaDoor.Q
open Go.RowKit Go.Lib Go.Shelf
theorem TBl.of_laid {l : List (String × DataW Unit)} {w : World} (h : laidMetH Tryd.prog l w) (hp : (l.all fun x => x.2.handleName?.isNone) = true) (i j k : Nat) (hm : l[i]? = some ("unicode/utf8.first", firstData)) (hn : l[j]? = some ("unicode/utf8.acceptRanges", acceptData)) (ho : l[k]? = some ("unicode.White_Space", whiteData)) : TBl w := by
  refine ⟨TBu.of_laid h hp i j hm hn, ?_⟩
  rw [MakeChecks.laidMetH_plain _ _ _ hp] at h
  exact whiteTab_of_reads Tryd.lays199 ⟨by kernel_rfl, by kernel_rfl, by kernel_rfl, by kernel_rfl, by kernel_rfl, by kernel_rfl, by kernel_rfl, by kernel_rfl⟩ (Go.Lib.laidMet.reads h (List.mem_of_getElem? ho))
end Go.Proofs.YtlpcbmgleecafaaDoor.Q
