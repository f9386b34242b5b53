/- The pairs of the program as pairs of the documentation: the loop of laws.pairs. No condition. -/
import Derived.Test.YtikhlolhodgegaaQlawspairs
import Derived.Test.YtikhlolhodgegaaHSet1
set_option linter.unusedVariables false
set_option linter.unusedSimpArgs false
namespace Go.Proofs.Ytikhlolhodgegaa.Q
open Go.RowKit Go.Proofs.YtikhlolhodgegaaW.PrintWords Go.Proofs.YtikhlolhodgegaaW.PrintLast Go.Proofs.YtikhlolhodgegaaW.PrintMore
theorem pairs_from (l : List S26) (hl : l.length < 4398046511104) (d : Nat) : ∀ (n k : Nat) (X : List S59), n + d = l.length → d < k → X.length = n →
    laws_pairs.l0 k X l (l.length : Int) n = some (X ++ (l.drop n).map conv) := by
  induction d with
  | zero =>
    intro n k X hn hk hX
    obtain ⟨k, rfl⟩ : ∃ m, k = m + 1 := ⟨k - 1, by omega⟩
    simp only [laws_pairs.l0]
    rw [if_neg (by omega), List.drop_of_length_le (by omega)]
    simp
  | succ d ih =>
    intro n k X hn hk hX
    obtain ⟨k, rfl⟩ : ∃ m, k = m + 1 := ⟨k - 1, by omega⟩
    have hlt : n < l.length := by omega
    simp only [laws_pairs.l0]
    have e1 : rd_T26 l (n : Int) = l[n] := by simp [rd_T26, List.getD_eq_getElem?_getD, List.getElem?_eq_getElem hlt]
    have e2 : wrap64 ((n : Int) + 1) = ((n + 1 : Nat) : Int) := by unfold wrap64; omega
    rw [if_pos (by omega), if_pos (by omega), if_pos (by omega), if_pos (by omega), e1, e2, ih (n + 1) k _ (by omega) (by omega) (by simp [hX]), List.drop_eq_getElem_cons hlt, List.map_cons, List.append_assoc]
    rfl
theorem pairs_is (l : List S26) (hl : l.length < 4398046511104) (k : Nat) (hk : l.length < k) : laws_pairs.f k l = some (l.map conv) := by
  unfold laws_pairs.f
  have := pairs_from l hl l.length 0 k [] (by omega) hk rfl
  simpa using this
end Go.Proofs.Ytikhlolhodgegaa.Q
