/- The order of texts, of pairs and of matchers: it is a strict total order. No condition. -/
import Derived.Test.YtikhlolhodgegaaHMatch
set_option linter.unusedVariables false
set_option linter.unusedSimpArgs false
namespace Go.Proofs.Ytikhlolhodgegaa.Q
open Go.RowKit
theorem bless_eq : ∀ (x y : List UInt8), Op.bytesLess x y = decide (x < y)
  | [], [] => by simp [Op.bytesLess]
  | _ :: _, [] => by simp [Op.bytesLess]
  | [], _ :: _ => by simp [Op.bytesLess]
  | a :: x, b :: y => by
    rw [Op.bytesLess, bless_eq x y]
    simp only [List.cons_lt_cons_iff]
    by_cases h1 : a < b <;> by_cases h2 : a = b <;> by_cases h3 : x < y <;> simp [h1, h2, h3]
theorem bl_irr (a : List UInt8) : ¬ a < a := List.lt_irrefl a
theorem bl_trans {a b c : List UInt8} (h : a < b) (k : b < c) : a < c := List.lt_trans h k
theorem bl_tri (a b : List UInt8) : a < b ∨ a = b ∨ b < a := by
  rcases Classical.em (a < b) with h | h
  · exact .inl h
  · rcases Classical.em (b < a) with k | k
    · exact .inr (.inr k)
    · exact .inr (.inl (List.le_antisymm (List.not_lt.1 k) (List.not_lt.1 h)))
theorem strGt_eq (a b : ByteArray) : strGt a b = decide (b.toList < a.toList) := by
  unfold strGt
  rw [bless_eq]
  rcases bl_tri a.toList b.toList with h | h | h
  · have h2 : ¬ b.toList < a.toList := fun k => bl_irr _ (bl_trans h k)
    simp [h, h2]
  · simp [h, bl_irr]
  · have h2 : ¬ a.toList < b.toList := fun k => bl_irr _ (bl_trans h k)
    have h3 : ¬ a.toList = b.toList := fun k => by rw [k] at h; exact bl_irr _ h
    simp [h, h2, h3]
/-- The order of matchers as a relation. -/
def ltM (x y : S52) : Prop := x.f1.toList < y.f1.toList ∨ (x.f1.toList = y.f1.toList ∧ (x.f2.toList < y.f2.toList ∨ (x.f2.toList = y.f2.toList ∧ x.f0 < y.f0)))
theorem lessM_iff (x y : S52) : lessM x y = true ↔ ltM x y := by
  unfold lessM ltM
  rw [strGt_eq, strGt_eq, bless_eq, bless_eq]
  rcases bl_tri x.f1.toList y.f1.toList with h | h | h
  · have h2 : ¬ y.f1.toList < x.f1.toList := fun k => bl_irr _ (bl_trans h k)
    simp [h, h2]
  · rcases bl_tri x.f2.toList y.f2.toList with g | g | g
    · have g2 : ¬ y.f2.toList < x.f2.toList := fun k => bl_irr _ (bl_trans g k)
      simp [h, g, g2, bl_irr]
    · simp [h, g, bl_irr]
    · have g2 : ¬ x.f2.toList < y.f2.toList := fun k => bl_irr _ (bl_trans g k)
      have g3 : ¬ x.f2.toList = y.f2.toList := fun k => by rw [k] at g; exact bl_irr _ g
      simp [h, g, g2, g3, bl_irr]
  · have h2 : ¬ x.f1.toList < y.f1.toList := fun k => bl_irr _ (bl_trans h k)
    have h3 : ¬ x.f1.toList = y.f1.toList := fun k => by rw [k] at h; exact bl_irr _ h
    simp [h, h2, h3]
theorem ltM_irr (x : S52) : ¬ ltM x x := by simp [ltM, bl_irr]
theorem ltM_trans {x y z : S52} (h : ltM x y) (k : ltM y z) : ltM x z := by
  unfold ltM at *
  rcases h with h | ⟨h, h2⟩
  · rcases k with k | ⟨k, _⟩
    · exact .inl (bl_trans h k)
    · exact .inl (k ▸ h)
  · rcases k with k | ⟨k, k2⟩
    · exact .inl (h ▸ k)
    · refine .inr ⟨h.trans k, ?_⟩
      rcases h2 with h2 | ⟨h2, h3⟩
      · rcases k2 with k2 | ⟨k2, _⟩
        · exact .inl (bl_trans h2 k2)
        · exact .inl (k2 ▸ h2)
      · rcases k2 with k2 | ⟨k2, k3⟩
        · exact .inl (h2 ▸ k2)
        · exact .inr ⟨h2.trans k2, by omega⟩
theorem ltM_tri (x y : S52) : ltM x y ∨ (x.f0 = y.f0 ∧ x.f1.toList = y.f1.toList ∧ x.f2.toList = y.f2.toList) ∨ ltM y x := by
  unfold ltM
  rcases bl_tri x.f1.toList y.f1.toList with h | h | h
  · exact .inl (.inl h)
  · rcases bl_tri x.f2.toList y.f2.toList with g | g | g
    · exact .inl (.inr ⟨h, .inl g⟩)
    · rcases Int.lt_trichotomy x.f0 y.f0 with i | i | i
      · exact .inl (.inr ⟨h, .inr ⟨g, i⟩⟩)
      · exact .inr (.inl ⟨i, h, g⟩)
      · exact .inr (.inr (.inr ⟨h.symm, .inr ⟨g.symm, i⟩⟩))
    · exact .inr (.inr (.inr ⟨h.symm, .inl g⟩))
  · exact .inr (.inr (.inl h))
end Go.Proofs.Ytikhlolhodgegaa.Q
