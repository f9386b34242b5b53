/- The size check of a list of texts, as a plain test. No condition. -/
import Derived.Test.YtikhlolhodgegaaUBase
import Derived.Test.YtikhlolhodgegaaQlawszzFits6
set_option linter.unusedVariables false
set_option linter.unusedSimpArgs false
namespace Go.Proofs.Ytikhlolhodgegaa.Q
open Go.RowKit Go.Proofs.YtikhlolhodgegaaW.PrintWords Go.Proofs.YtikhlolhodgegaaW.PrintLast Go.Proofs.YtikhlolhodgegaaW.PrintMore
theorem fits6_is (l : List ByteArray) (k : Nat) (hk : l.length < k) : laws_zzFits6.f k l = some (decide (l.length ≤ 2147483647) && l.all (fun s => decide (s.size ≤ 2147483647))) := by
  unfold laws_zzFits6.f
  split
  · rw [decide_eq_false (by omega)]; rfl
  · rw [decide_eq_true (by omega), Bool.true_and]
    have := all_loop l (by omega) (fun s => decide (s.size ≤ 2147483647)) true (fun k x => laws_zzFits6.l0 k l (l.length : Int) x) ?_ ?_ k hk
    · simpa using this
    · intro k
      simp only [laws_zzFits6.l0]
      rw [if_neg (by omega)]
    · intro k n h
      simp only [laws_zzFits6.l0]
      rw [if_pos (by omega), if_pos (by omega), if_pos (by omega), rdS_nat l n h]
      by_cases hs : (l[n].size : Int) > 2147483647
      · rw [if_pos hs, if_neg (by simp; omega)]
      · rw [if_neg hs, if_pos (by simp; omega)]
end Go.Proofs.Ytikhlolhodgegaa.Q
