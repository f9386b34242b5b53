/- Plain words: the tokens of the text that the laws try first. No condition. -/
import Derived.Test.YtlpcbmgleecafaaDoorHTokens
set_option linter.unusedVariables false
set_option linter.unusedSimpArgs false
namespace Go.Proofs.YtlpcbmgleecafaaDoor.Q
open Go.RowKit Go.Lib Go.Proofs.YtlpcbmgleecafaaDoorW.PrintWords Go.Proofs.YtlpcbmgleecafaaDoorW.PrintLast Go.Proofs.YtlpcbmgleecafaaDoorW.PrintMore
def braceT : ByteArray := ⟨#[123, 32, 97, 32, 125]⟩
theorem brace_toks : toksF braceT 7 lx0 = ([⟨1, ⟨#[123]⟩, 0, 1, 0, 1⟩, ⟨9, ⟨#[97]⟩, 2, 3, 2, 3⟩, ⟨2, ⟨#[125]⟩, 4, 5, 4, 5⟩], true) := by kernel_rfl
theorem brace_is : impl_Tokens.f (⟨#[123, 32, 97, 32, 125]⟩ : ByteArray) = some ([⟨1, ⟨#[123]⟩, 0, 1, 0, 1⟩, ⟨9, ⟨#[97]⟩, 2, 3, 2, 3⟩, ⟨2, ⟨#[125]⟩, 4, 5, 4, 5⟩], true) := by
  unfold impl_Tokens.f
  rw [if_pos (by decide)]
  exact congrArg some brace_toks
end Go.Proofs.YtlpcbmgleecafaaDoor.Q
