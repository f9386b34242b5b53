/- Numbers that are no weekdays: the law FnWeekdayNone over the functions that the program comes to, for every input. No condition. -/
import Derived.Test.YtbcijcmmpbkkbaaQlawsFnWeekdayNone
namespace Go.Proofs.Ytbcijcmmpbkkbaa.Q
open Go.RowKit Go.Proofs.YtbcijcmmpbkkbaaW.PrintWords Go.Proofs.YtbcijcmmpbkkbaaW.PrintLast Go.Proofs.YtbcijcmmpbkkbaaW.PrintMore
theorem week_all : impl_WeekdayText.f 0 6 = some (⟨#[115, 117, 110, 100, 97, 121, 58, 115, 97, 116, 117, 114, 100, 97, 121]⟩, true) := by
  unfold impl_WeekdayText.f
  rw [if_pos (by decide)]
  rfl
theorem week_bad (a b : Int) (wa : (Lit.int .i64 a).wf = true) (wb : (Lit.int .i64 b).wf = true) (h : ¬ (0 ≤ a ∧ a ≤ 6 ∧ 0 ≤ b ∧ b ≤ 6)) : impl_WeekdayText.f a b = some (⟨#[]⟩, false) := by
  unfold impl_WeekdayText.f
  rw [if_pos ⟨wa, wb⟩, if_neg]
  simp [inWeek]
  omega
theorem laws_FnWeekdayNone.pure : ∀ (a0 : Int) (a1 : Int), (Lit.int .i64 a0).wf = true → (Lit.int .i64 a1).wf = true → ∃ k, laws_FnWeekdayNone.f k a0 a1 = some true := by
  intro a b wa wb
  refine ⟨5, ?_⟩
  have t1 : ((⟨#[115, 117, 110, 100, 97, 121, 58, 115, 97, 116, 117, 114, 100, 97, 121]⟩ : ByteArray).toList != ([115, 117, 110, 100, 97, 121, 58, 115, 97, 116, 117, 114, 100, 97, 121] : List UInt8)) = false := by
    rw [Lib.toList_data]; decide
  have t2 : ((⟨#[]⟩ : ByteArray).toList == ([] : List UInt8)) = true := by rw [Lib.toList_data]; decide
  unfold laws_FnWeekdayNone.f
  rw [week_all]
  simp only [Option.bind_some, if_true]
  rw [t1]
  simp only [laws_FnWeekdayNone.j0]
  rw [if_neg (by simp)]
  by_cases h : 0 ≤ a ∧ a ≤ 6 ∧ 0 ≤ b ∧ b ≤ 6
  · rw [if_pos h.1, if_pos h.2.1, if_pos h.2.2.1, if_pos h.2.2.2]
  · rw [week_bad a b wa wb h]
    simp only [Option.bind_some, Bool.false_eq_true, if_false, t2]
    repeat' split
    all_goals first | rfl | (exfalso; omega)
end Go.Proofs.Ytbcijcmmpbkkbaa.Q
