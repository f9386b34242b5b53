/- Which names were valid ahead of UTF-8: the law FnLegacy over the functions that the program comes to, for every text. No condition. -/
import Derived.Test.YtbcijcmmpbkkbaaULegacy
import Derived.Test.YtbcijcmmpbkkbaaQlawsFnLegacy
namespace Go.Proofs.Ytbcijcmmpbkkbaa.Q
open Go.RowKit Go.Proofs.YtbcijcmmpbkkbaaW.PrintWords Go.Proofs.YtbcijcmmpbkkbaaW.PrintLast Go.Proofs.YtbcijcmmpbkkbaaW.PrintMore
theorem laws_FnLegacy.pure : ∀ (a0 : ByteArray), a0.size ≤ 140737488351232 → ∃ k, laws_FnLegacy.f k a0 = some true := by
  intro s hs
  refine ⟨s.size + 2, ?_⟩
  have e1 : legB true (⟨#[97, 58, 98]⟩ : ByteArray) = true := by decide
  have e2 : legB false (⟨#[97]⟩ : ByteArray) = true := by decide
  unfold laws_FnLegacy.f
  split
  · rfl
  · simp only [impl_LegacyMetric.f, impl_LegacyLabel.f, e1, e2, Option.bind_some, if_true, Bool.not_true]
    simp only [laws_FnLegacy.j0, laws_long.f, Option.bind_some, legacy_is true s (by omega) (s.size + 1) (by omega), legacy_is false s (by omega) (s.size + 1) (by omega), specMetric_is s (by omega) (s.size + 1) (by omega), specLabel_is s (by omega) (s.size + 1) (by omega), impl_LegacyMetric.f, impl_LegacyLabel.f, BEq.rfl, if_true]
    split
    · rename_i h; cases h
    · split <;> rfl
end Go.Proofs.Ytbcijcmmpbkkbaa.Q
