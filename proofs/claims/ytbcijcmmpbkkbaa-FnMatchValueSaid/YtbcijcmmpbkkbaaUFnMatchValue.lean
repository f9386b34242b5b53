/- "=" matches the value alone, "!=" all others: the law FnMatchValue over the functions that the program comes to, for every input. No condition. -/
import Derived.Test.YtbcijcmmpbkkbaaQlawsFnMatchValue
namespace Go.Proofs.Ytbcijcmmpbkkbaa.Q
open Go.RowKit Go.Proofs.YtbcijcmmpbkkbaaW.PrintWords Go.Proofs.YtbcijcmmpbkkbaaW.PrintLast Go.Proofs.YtbcijcmmpbkkbaaW.PrintMore
theorem laws_FnMatchValue.pure : ∀ (a0_0 : Int) (a0_1 : ByteArray) (a0_2 : ByteArray) (a1 : ByteArray), a1.size ≤ 140737488351232 → ∃ k, laws_FnMatchValue.f k a0_0 a0_1 a0_2 a1 = some true := by
  intro t n v a _
  refine ⟨5, ?_⟩
  have e1 : ∀ b, laws_FnMatchValue.j0 5 a b t n v = some true := by
    intro b
    cases b
    · have ev : (impl_MatchValue.f 0 (⟨#[97]⟩ : ByteArray) (⟨#[98]⟩ : ByteArray) (⟨#[98]⟩ : ByteArray)) = some true := by simp [impl_MatchValue.f, matchesV]
      have ew : (impl_MatchValue.f 0 (⟨#[]⟩ : ByteArray) a a) = some true := by simp [impl_MatchValue.f, matchesV]
      by_cases h0 : t = 0
      · subst h0
        by_cases hv : a.toList = v.toList
        · simp [laws_FnMatchValue.j0, laws_FnMatchValue.j1, ew, impl_MatchValue.f, matchesV, spec_MatchValue.f, spec_MatchValue.j0, hv]
        · have hv' : ¬ v.toList = a.toList := fun h => hv h.symm
          simp [laws_FnMatchValue.j0, laws_FnMatchValue.j1, ew, impl_MatchValue.f, matchesV, spec_MatchValue.f, spec_MatchValue.j0, hv, hv']
      · by_cases h1 : t = 1
        · subst h1
          by_cases hv : a.toList = v.toList
          · simp [laws_FnMatchValue.j0, laws_FnMatchValue.j1, ew, impl_MatchValue.f, matchesV, spec_MatchValue.f, spec_MatchValue.j0, hv]
          · have hv' : ¬ v.toList = a.toList := fun h => hv h.symm
            simp [laws_FnMatchValue.j0, laws_FnMatchValue.j1, ew, impl_MatchValue.f, matchesV, spec_MatchValue.f, spec_MatchValue.j0, hv, hv']
        · simp [laws_FnMatchValue.j0, laws_FnMatchValue.j1, ev, h0, h1]
    · simp [laws_FnMatchValue.j0]
  simp only [laws_FnMatchValue.f, laws_zzFits4.f]
  repeat' split
  all_goals simp [e1]
end Go.Proofs.Ytbcijcmmpbkkbaa.Q
