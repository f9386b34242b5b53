/- Names that were valid ahead of UTF-8: the statement's own function comes to what the library's comes to. No condition. -/
import Derived.Test.YtkbaihcamimnjaaDoorULegM
import Derived.Test.YtkbaihcamimnjaaDoorQlawslegacy
set_option linter.unusedVariables false
set_option linter.unusedSimpArgs false
namespace Go.Proofs.YtkbaihcamimnjaaDoor.Q
open Go.RowKit Go.Proofs.YtkbaihcamimnjaaDoorW.PrintWords Go.Proofs.YtkbaihcamimnjaaDoorW.PrintLast Go.Proofs.YtkbaihcamimnjaaDoorW.PrintMore
theorem str_pos (s : ByteArray) : (some (s.toList != ([] : List UInt8)) : Option Bool) = some (decide ((s.size : Int) > 0)) := by
  rw [ByteArray.toList_eq]
  obtain ⟨⟨l⟩⟩ := s
  cases l <;> simp [ByteArray.size]
set_option maxHeartbeats 1000000 in
theorem legacy_is (colon : Bool) (s : ByteArray) (hs : s.size ≤ 9223372036854775807) (k : Nat) (hk : s.size < k) : laws_legacy.f k s colon = some (legB colon s) := by
  refine leg_loop colon s hs (fun k x => laws_legacy.l0 k s colon x) ?_ ?_ s.size 0 k (by omega) hk (fun i hi => by omega)
  · intro k
    simp only [laws_legacy.l0]
    rw [if_neg (by omega), str_pos]
  · intro k n hn
    simp only [laws_legacy.l0]
    rw [if_pos (by omega), if_pos (by omega)]
    generalize bt s n = c
    generalize laws_legacy.l0 k s colon (wrap64 ((n : Int) + 1)) = R
    cases hc : legC colon c n
    · have h := (legC_false colon c n).1 hc
      refine Eq.trans ?_ (if_neg (by simp)).symm
      cases colon
      · simp only [Bool.false_eq_true, if_false, false_and, false_or] at h ⊢
        repeat' split
        all_goals first | rfl | omega
      · simp only [if_true, true_and] at h ⊢
        repeat' split
        all_goals first | rfl | omega
    · have h := (legC_iff colon c n).1 hc
      refine Eq.trans ?_ (if_pos rfl).symm
      cases colon
      · simp only [Bool.false_eq_true, if_false, false_and, false_or] at h ⊢
        repeat' split
        all_goals first | rfl | omega
      · simp only [if_true, true_and] at h ⊢
        repeat' split
        all_goals first | rfl | omega
end Go.Proofs.YtkbaihcamimnjaaDoor.Q
