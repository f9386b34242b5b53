/- Comparing the program's pairs with the documentation's: like lists are equal to laws.eqPairs. No condition beyond the length. -/
import Derived.Test.YtikhlolhodgegaaHSet2
import Derived.Test.YtikhlolhodgegaaQlawseqPairs
set_option linter.unusedVariables false
set_option linter.unusedSimpArgs false
namespace Go.Proofs.Ytikhlolhodgegaa.Q
open Go.RowKit Go.Proofs.YtikhlolhodgegaaW.PrintWords Go.Proofs.YtikhlolhodgegaaW.PrintLast Go.Proofs.YtikhlolhodgegaaW.PrintMore
theorem eqPairs_from (l : List S26) (m : List S59) (hm : m = l.map conv) (hl : l.length ≤ 9223372036854775807) (d : Nat) : ∀ (n k : Nat), n + d = l.length → d < k → laws_eqPairs.l0 k l m (l.length : Int) n = some true := by
  have hml : m.length = l.length := by rw [hm, List.length_map]
  induction d with
  | zero =>
    intro n k hn hk
    obtain ⟨k, rfl⟩ : ∃ m, k = m + 1 := ⟨k - 1, by omega⟩
    simp only [laws_eqPairs.l0]
    rw [if_neg (by omega)]
  | succ d ih =>
    intro n k hn hk
    obtain ⟨k, rfl⟩ : ∃ m, k = m + 1 := ⟨k - 1, by omega⟩
    have hlt : n < l.length := by omega
    have e1 : rd_T26 l (n : Int) = l[n] := by simp [rd_T26, List.getD_eq_getElem?_getD, List.getElem?_eq_getElem hlt]
    have e2 : rd_T59 m (n : Int) = conv l[n] := by subst hm; simp [rd_T59, List.getD_eq_getElem?_getD, List.getElem?_eq_getElem (show n < (l.map conv).length by omega)]
    have e3 : wrap64 ((n : Int) + 1) = ((n + 1 : Nat) : Int) := by unfold wrap64; omega
    simp only [laws_eqPairs.l0]
    rw [if_pos (by omega), if_pos (by omega), if_pos (by omega), if_pos (by omega), e1, e2, e3, if_neg (by simp [conv]), ih (n + 1) k (by omega) (by omega)]
theorem eqPairs_is (l : List S26) (m : List S59) (hm : m = l.map conv) (hl : l.length ≤ 9223372036854775807) (k : Nat) (hk : l.length < k) : laws_eqPairs.f k l m = some true := by
  have hml : m.length = l.length := by rw [hm, List.length_map]
  unfold laws_eqPairs.f
  rw [if_pos (by omega)]
  exact eqPairs_from l m hm hl l.length 0 k (by omega) hk
theorem lastP_setGo (A : List S59) (n : List UInt8) : lastP (setGo A []) n = lastP A n := by
  have key : ∀ q, lastP (setGo A []) n = some q ↔ lastP A n = some q := fun q => by
    constructor
    · intro h
      have hn := lastP_nm h
      rw [← hn] at h ⊢
      exact (mem_setGo_iff A q).1 ((lastP_sorted (setGo_sorted A) q).1 h)
    · intro h
      have hn := lastP_nm h
      rw [← hn] at h ⊢
      exact (lastP_sorted (setGo_sorted A) q).2 ((mem_setGo_iff A q).2 h)
  cases h : lastP A n with
  | some q => exact (key q).2 h
  | none =>
    cases h2 : lastP (setGo A []) n with
    | none => rfl
    | some q => rw [(key q).1 h2] at h; cases h
theorem setGo_setGo (A B : List S59) : setGo (setGo A [] ++ setGo B []) [] = setGo (A ++ B) [] :=
  setGo_ext fun n => by rw [lastP_app, lastP_app, lastP_setGo, lastP_setGo]
theorem shortOfM' {l : List S26} (h : ∀ p ∈ l, p.f0.size ≤ 2147483647 ∧ p.f1.size ≤ 2147483647) : shortPairs l := fun p hp => by
  have := h p hp
  omega
theorem setGo_one (p : S59) : setGo [p] [] = [p] := by simp [setGo, setStep, insP]
end Go.Proofs.Ytikhlolhodgegaa.Q
