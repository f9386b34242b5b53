/- The law FnTimesBack: minutes of a day are written as the reference says, and read back. No condition. -/
import Derived.Test.YtmmcibeeojfplaaDoorQlawsFnTimesBack
set_option linter.unusedVariables false
set_option linter.unusedSimpArgs false
namespace Go.Proofs.YtmmcibeeojfplaaDoor.Q
open Go.RowKit Go.Proofs.YtmmcibeeojfplaaDoorW.PrintWords Go.Proofs.YtmmcibeeojfplaaDoorW.PrintLast Go.Proofs.YtmmcibeeojfplaaDoorW.PrintMore
theorem two_q : ∀ n : Fin 1441, spec_two.f (wrap64 (Int.tdiv (n.val : Int) 60)) = some (twoS (n.val / 60)) := by decide +kernel
theorem two_r : ∀ n : Fin 1441, spec_two.f (Int.tmod (n.val : Int) 60) = some (twoS (n.val % 60)) := by decide +kernel
theorem spec_texts (n m : Nat) (hn : n ≤ 1440) (hm : m ≤ 1440) : spec_TimeTexts.f n m = some (timeS n, timeS m) := by
  unfold spec_TimeTexts.f
  have a1 := two_q ⟨n, by omega⟩
  have a2 := two_r ⟨n, by omega⟩
  have a3 := two_q ⟨m, by omega⟩
  have a4 := two_r ⟨m, by omega⟩
  simp only at a1 a2 a3 a4
  have z : ∀ k, (twoS k).size = 2 := fun _ => rfl
  have y : ∀ k, (twoS k ++ (⟨#[58]⟩ : ByteArray)).size = 3 := fun k => by rw [ByteArray.size_append, z]; rfl
  simp only [a1, a2, a3, a4, Option.bind_some, z, y]
  rw [if_pos (by omega), if_pos (by omega), if_pos (by omega), if_pos (by omega), timeS_cat, timeS_cat]
theorem times_is (n m : Nat) (h : n < m) (hm : m ≤ 1440) : impl_Times.f (timeS n) (timeS m) = some ((n : Int), (m : Int), true) := by
  unfold impl_Times.f
  have e1 := minOf_all ⟨n, by omega⟩
  have e2 := minOf_all ⟨m, by omega⟩
  simp only at e1 e2
  rw [e1, e2, if_pos ⟨h, hm, rfl, rfl⟩]
theorem laws_FnTimesBack.pure : ∀ (a0 a1 : Int), (Lit.int .i64 a0).wf = true → (Lit.int .i64 a1).wf = true → ∃ k, laws_FnTimesBack.f k a0 a1 = some true := by
  intro a0 a1 _ _
  refine ⟨1, ?_⟩
  have hbad : laws_FnTimesBack.j0 1 a0 a1 true = some true := by
    have e0 : impl_Times.f ⟨#[48, 48, 58, 48, 48]⟩ ⟨#[50, 52, 58, 48, 48]⟩ = some (0, 1440, true) := times_is 0 1440 (by omega) (by omega)
    simp only [laws_FnTimesBack.j0]
    rw [if_pos trivial, e0]
    rfl
  unfold laws_FnTimesBack.f
  by_cases h0 : a0 < 0
  · rw [if_pos h0]; exact hbad
  rw [if_neg h0]
  by_cases h1 : a0 ≥ a1
  · rw [if_pos h1]; exact hbad
  rw [if_neg h1]
  by_cases h2 : a1 > 1440
  · rw [decide_eq_true h2]; exact hbad
  rw [decide_eq_false h2]
  obtain ⟨n, rfl⟩ := Int.eq_ofNat_of_zero_le (show 0 ≤ a0 by omega)
  obtain ⟨m, rfl⟩ := Int.eq_ofNat_of_zero_le (show 0 ≤ a1 by omega)
  have hi : impl_TimeTexts.f (n : Int) (m : Int) = some (timeS n, timeS m) := by
    unfold impl_TimeTexts.f
    rw [if_pos (by omega), Int.toNat_natCast, Int.toNat_natCast]
  simp only [laws_FnTimesBack.j0]
  rw [if_neg (by decide), hi, spec_texts n m (by omega) (by omega)]
  simp only [Option.bind_some]
  rw [times_is n m (by omega) (by omega)]
  simp
end Go.Proofs.YtmmcibeeojfplaaDoor.Q
