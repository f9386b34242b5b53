/- Size checks of the statements on matchers, as plain tests. No condition. -/
import Derived.Test.YtikhlolhodgegaaUBase
import Derived.Test.YtikhlolhodgegaaQlawszzFits3
import Derived.Test.YtikhlolhodgegaaQlawsvalues
set_option linter.unusedVariables false
set_option linter.unusedSimpArgs false
namespace Go.Proofs.Ytikhlolhodgegaa.Q
open Go.RowKit Go.Proofs.YtikhlolhodgegaaW.PrintWords Go.Proofs.YtikhlolhodgegaaW.PrintLast Go.Proofs.YtikhlolhodgegaaW.PrintMore
theorem rd_nat52 (l : List S52) (n : Nat) (h : n < l.length) : rd_T52 l (n : Int) = l[n] := by simp [rd_T52, List.getD_eq_getElem?_getD, List.getElem?_eq_getElem h]
def fitsM (p : S52) : Bool := decide (p.f1.size ≤ 2147483647) && decide (p.f2.size ≤ 2147483647)
def fitsMs (l : List S52) : Bool := decide (l.length ≤ 2147483647) && l.all fitsM
theorem fits4_is (t : Int) (a b : ByteArray) : laws_zzFits4.f t a b = some (decide (a.size ≤ 2147483647) && decide (b.size ≤ 2147483647)) := by
  unfold laws_zzFits4.f
  repeat' split
  all_goals (congr 1; refine Bool.eq_iff_iff.2 ?_; simp; try omega)
theorem fits3_is (l : List S52) (k : Nat) (hk : l.length < k) : laws_zzFits3.f k l = some (fitsMs l) := by
  unfold laws_zzFits3.f fitsMs
  split
  · rw [decide_eq_false (by omega)]; rfl
  · rw [decide_eq_true (by omega), Bool.true_and]
    have := all_loop l (by omega) fitsM true (fun k x => laws_zzFits3.l0 k l (l.length : Int) x) ?_ ?_ k hk
    · simpa using this
    · intro k
      simp only [laws_zzFits3.l0]
      rw [if_neg (by omega)]
    · intro k n h
      simp only [laws_zzFits3.l0]
      rw [if_pos (by omega), if_pos (by omega), if_pos (by omega), rd_nat52 l n h, fits4_is]
      rfl
def typeM (m : S52) : Bool := decide (m.f0 = 0 ∨ m.f0 = 1)
theorem values_is (l : List S52) (hl : l.length ≤ 9223372036854775807) (k : Nat) (hk : l.length < k) : laws_values.f k l = some (l.all typeM && decide (l.length ≤ 10000)) := by
  unfold laws_values.f
  refine all_loop l hl typeM _ (fun k x => laws_values.l0 k l l (l.length : Int) x) ?_ ?_ k hk
  · intro k
    simp only [laws_values.l0]
    rw [if_neg (by omega)]
    congr 1; refine Bool.eq_iff_iff.2 ?_; simp; try omega
  · intro k n h
    simp only [laws_values.l0]
    rw [if_pos (by omega), if_pos (by omega), if_pos (by omega), rd_nat52 l n h]
    by_cases h0 : l[n].f0 = 0
    · rw [if_pos h0, if_pos (by simp [typeM, h0])]
    · rw [if_neg h0]
      by_cases h1 : l[n].f0 = 1
      · rw [if_pos h1, if_pos (by simp [typeM, h1])]
      · rw [if_neg h1, if_neg (by simp [typeM, h0, h1])]
end Go.Proofs.Ytikhlolhodgegaa.Q
