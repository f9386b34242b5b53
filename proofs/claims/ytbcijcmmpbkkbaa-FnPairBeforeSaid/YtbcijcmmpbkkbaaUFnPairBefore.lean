/- The order of labels: the law FnPairBefore over the functions that the program comes to, for every input. No condition. -/
import Derived.Test.YtbcijcmmpbkkbaaUFits
import Derived.Test.YtbcijcmmpbkkbaaUOrd
import Derived.Test.YtbcijcmmpbkkbaaQlawsFnPairBefore
namespace Go.Proofs.Ytbcijcmmpbkkbaa.Q
open Go.RowKit Go.Proofs.YtbcijcmmpbkkbaaW.PrintWords Go.Proofs.YtbcijcmmpbkkbaaW.PrintLast Go.Proofs.YtbcijcmmpbkkbaaW.PrintMore
theorem lessLP_is (x y : S26) : lessLP x y = if x.f0.toList = y.f0.toList then Op.bytesLess x.f1.toList y.f1.toList else Op.bytesLess x.f0.toList y.f0.toList := by
  unfold lessLP
  rw [strGt_eq, strGt_eq, bless_eq, bless_eq]
  rcases bl_tri x.f0.toList y.f0.toList with h | h | h
  · have h2 : ¬ y.f0.toList < x.f0.toList := fun k => bl_irr _ (bl_trans h k)
    have h3 : ¬ x.f0.toList = y.f0.toList := fun k => by rw [k] at h; exact bl_irr _ h
    simp [h, h2, h3]
  · rcases bl_tri x.f1.toList y.f1.toList with g | g | g
    · have g2 : ¬ y.f1.toList < x.f1.toList := fun k => bl_irr _ (bl_trans g k)
      simp [h, g, g2, bl_irr]
    · simp [h, g, bl_irr]
    · have g2 : ¬ x.f1.toList < y.f1.toList := fun k => bl_irr _ (bl_trans g k)
      simp [h, g, g2, bl_irr]
  · have h2 : ¬ x.f0.toList < y.f0.toList := fun k => bl_irr _ (bl_trans h k)
    have h3 : ¬ x.f0.toList = y.f0.toList := fun k => by rw [k] at h; exact bl_irr _ h
    simp [h, h2, h3]
theorem laws_FnPairBefore.pure : ∀ (l0 : List S26) (a1 : Int) (a2 : Int), l0.length ≤ 9223372036854775807 → (Lit.int .i64 a1).wf = true → (Lit.int .i64 a2).wf = true → ∃ k, laws_FnPairBefore.f k l0 a1 a2 = some true := by
  intro l a b hl _ _
  refine ⟨l.length + 5, ?_⟩
  unfold laws_FnPairBefore.f
  rw [fits1_is l _ (by omega)]
  simp only [Option.bind_some]
  have jt : laws_FnPairBefore.j0 (l.length + 5) l a b true = some true := by simp only [laws_FnPairBefore.j0, if_true]
  cases hf : fitsPs l
  · rw [if_neg (by simp)]
  · rw [if_pos rfl]
    have e0 : impl_PairBefore.f ([⟨⟨#[97]⟩, ⟨#[]⟩⟩, ⟨⟨#[98]⟩, ⟨#[]⟩⟩] : List S26) 0 1 = some true := by
      unfold impl_PairBefore.f
      rw [if_pos (by simp)]
      congr 1
      rw [lessLP_is]
      show (if (⟨#[97]⟩ : ByteArray).toList = (⟨#[98]⟩ : ByteArray).toList then Op.bytesLess (⟨#[]⟩ : ByteArray).toList (⟨#[]⟩ : ByteArray).toList else Op.bytesLess (⟨#[97]⟩ : ByteArray).toList (⟨#[98]⟩ : ByteArray).toList) = true
      simp only [Lib.toList_data]
      decide
    rw [e0]
    simp only [Option.bind_some, if_true]
    by_cases h1 : a < 0
    · rw [if_pos h1]; exact jt
    rw [if_neg h1]
    by_cases h2 : b < 0
    · rw [if_pos h2]; exact jt
    rw [if_neg h2]
    by_cases h3 : a ≥ (l.length : Int)
    · rw [if_pos h3]; exact jt
    rw [if_neg h3]
    by_cases h4 : b ≥ (l.length : Int)
    · rw [if_pos h4]; exact jt
    rw [if_neg h4]
    by_cases h5 : (l.length : Int) > 10000
    · rw [decide_eq_true h5]; exact jt
    · rw [decide_eq_false h5]
      simp only [laws_FnPairBefore.j0]
      have ef : impl_PairBefore.f l a b = some (lessLP (rd_T26 l a) (rd_T26 l b)) := by
        unfold impl_PairBefore.f
        rw [if_pos (by omega)]
      rw [if_neg (by simp), if_pos (by omega), if_pos (by omega), if_pos (by omega), if_pos (by omega), ef]
      generalize rd_T26 l a = p
      generalize rd_T26 l b = q
      simp only [Option.bind_some, spec_PairBefore.f]
      rw [lessLP_is]
      by_cases he : p.f0.toList = q.f0.toList
      · have hn : ¬ (Op.bytesLess p.f0.toList q.f0.toList = true) := by rw [bless_eq, he]; simp [bl_irr]
        simp only [if_neg hn, if_pos he, Option.bind_some]
        simp
      · rw [if_neg he]
        by_cases hb : Op.bytesLess p.f0.toList q.f0.toList = true
        · simp only [if_pos hb, if_neg he, hb, Option.bind_some]
          simp
        · have hb' : Op.bytesLess p.f0.toList q.f0.toList = false := by simpa using hb
          simp only [if_neg hb, if_neg he, hb', Option.bind_some]
          simp
end Go.Proofs.Ytbcijcmmpbkkbaa.Q
