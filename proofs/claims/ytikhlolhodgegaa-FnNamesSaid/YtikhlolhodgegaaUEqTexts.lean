/- The comparison of lists of texts: like lists are equal. No condition beyond the length. -/
import Derived.Test.YtikhlolhodgegaaULoops
import Derived.Test.YtikhlolhodgegaaQlawseqTexts
set_option linter.unusedVariables false
set_option linter.unusedSimpArgs false
namespace Go.Proofs.Ytikhlolhodgegaa.Q
open Go.RowKit Go.Proofs.YtikhlolhodgegaaW.PrintWords Go.Proofs.YtikhlolhodgegaaW.PrintLast Go.Proofs.YtikhlolhodgegaaW.PrintMore
theorem eqTexts_from (l : List ByteArray) (hl : l.length < 9223372036854775807) (d : Nat) : ∀ (n k : Nat), n + d = l.length → d < k → laws_eqTexts.l0 k l l (l.length : Int) n = some true := by
  induction d with
  | zero =>
    intro n k hn hk
    obtain ⟨k, rfl⟩ : ∃ m, k = m + 1 := ⟨k - 1, by omega⟩
    simp only [laws_eqTexts.l0]
    rw [if_neg (by omega)]
  | succ d ih =>
    intro n k hn hk
    obtain ⟨k, rfl⟩ : ∃ m, k = m + 1 := ⟨k - 1, by omega⟩
    simp only [laws_eqTexts.l0]
    rw [if_pos (by omega), if_pos (by omega), if_pos (by omega), if_pos (by omega), if_pos trivial, wrapN n (by omega), ih (n + 1) k (by omega) (by omega)]
theorem eqTexts_is (l m : List ByteArray) (hm : l = m) (hl : l.length < 9223372036854775807) (k : Nat) (hk : l.length < k) : laws_eqTexts.f k l m = some true := by
  subst hm
  unfold laws_eqTexts.f
  rw [if_pos rfl]
  exact eqTexts_from l hl l.length 0 k (by omega) hk
end Go.Proofs.Ytikhlolhodgegaa.Q
