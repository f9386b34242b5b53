/- The law FnReadDuration: what the program says of a text is what the reference says, where it says something. No condition. -/
import Derived.Test.YtmmcibeeojfplaaDoorQlawsFnReadDuration
import Derived.Test.YtmmcibeeojfplaaDoorUDurS
set_option linter.unusedVariables false
set_option linter.unusedSimpArgs false
namespace Go.Proofs.YtmmcibeeojfplaaDoor.Q
open Go.RowKit Go.Proofs.YtmmcibeeojfplaaDoorW.PrintWords Go.Proofs.YtmmcibeeojfplaaDoorW.PrintLast Go.Proofs.YtmmcibeeojfplaaDoorW.PrintMore
theorem dur_130 : durF [49, 104, 51, 48, 109] = some 5400000000000 := by decide +kernel
theorem laws_FnReadDuration.pure : ∀ (a0 : ByteArray), a0.size ≤ 140737488351232 → ∃ k, laws_FnReadDuration.f k a0 = some true := by
  intro a0 _
  have hd : impl_ReadDuration.f ⟨#[49, 104, 51, 48, 109]⟩ = some (5400000000000, true) := by
    unfold impl_ReadDuration.f
    rw [if_pos (by decide)]
    show some (rdF [49, 104, 51, 48, 109]) = _
    unfold rdF
    rw [dur_130]
    rfl
  by_cases hbig : (a0.size : Int) > 2147483647
  · exact ⟨0, by unfold laws_FnReadDuration.f; rw [if_pos hbig]⟩
  by_cases hlong : a0.size ≤ 65536
  · obtain ⟨r, ⟨K, hK⟩, hy, hno⟩ := spec_is a0 hlong
    have hi : impl_ReadDuration.f a0 = some (rdF a0.data.toList) := by unfold impl_ReadDuration.f; rw [if_pos (by omega)]
    refine ⟨K + 1, ?_⟩
    have hll : laws_long.f a0 = some false := by unfold laws_long.f; simp; omega
    unfold laws_FnReadDuration.f
    rw [if_neg hbig, hd]
    simp only [Option.bind_some, if_true, laws_FnReadDuration.j0, hll, hi, hK K (Nat.le_refl _)]
    rw [if_neg (by decide), if_neg (by decide)]
    unfold rdF
    by_cases h1 : r.2 = 1
    · obtain ⟨e, h0⟩ := hy h1
      rw [if_pos h1, e]
      simp
      omega
    rw [if_neg h1]
    by_cases h0 : r.2 = 0
    · rw [if_pos h0, hno h0]
      rfl
    rw [if_neg h0]
  · have hll : laws_long.f a0 = some true := by unfold laws_long.f; simp; omega
    refine ⟨1, ?_⟩
    unfold laws_FnReadDuration.f
    rw [if_neg hbig, hd]
    simp only [Option.bind_some, if_true, laws_FnReadDuration.j0, hll]
    rw [if_neg (by decide)]
end Go.Proofs.YtmmcibeeojfplaaDoor.Q
