/- The order of matchers is strict and total: the law FnOrder over the functions that the program comes to, for every input. No condition. -/
import Derived.Test.YtbcijcmmpbkkbaaUFits
import Derived.Test.YtbcijcmmpbkkbaaUOrd
import Derived.Test.YtbcijcmmpbkkbaaQlawsFnOrder
namespace Go.Proofs.Ytbcijcmmpbkkbaa.Q
open Go.RowKit Go.Proofs.YtbcijcmmpbkkbaaW.PrintWords Go.Proofs.YtbcijcmmpbkkbaaW.PrintLast Go.Proofs.YtbcijcmmpbkkbaaW.PrintMore
theorem before_of {l : List S30} {a b : Nat} (hl : l.length ≤ 10000000000) (ha : a < l.length) (hb : b < l.length) : impl_Before.f l a b = some (lessM l[a] l[b]) := by
  unfold impl_Before.f
  rw [if_pos ⟨hl, by omega, by omega, by omega, by omega⟩, rd_nat30 l a ha, rd_nat30 l b hb]
theorem typed_is (l : List S30) (hl : l.length ≤ 9223372036854775807) (k : Nat) (hk : l.length < k) : laws_typed.f k l = some (l.all typeM && decide (l.length ≤ 2000)) := by
  unfold laws_typed.f
  rw [values_is l hl k hk]
  by_cases h1 : l.all typeM = true <;> by_cases h2 : l.length ≤ 10000 <;> by_cases h3 : l.length ≤ 2000 <;> simp [h1, h2, h3] <;> omega
theorem rd_toList (b : ByteArray) : b.toList = b.data.toList := Lib.toList_data b
theorem order_of (x y z : S30) : (if lessM x x = true then (some false) else (if lessM x y = true then (if lessM y x = true then (some false) else (if lessM y z = true then (some (lessM x z)) else (some true))) else (if lessM y x = true then (some true) else (if (x.f0 == y.f0 && (x.f1.toList == y.f1.toList && (x.f2.toList == y.f2.toList))) = true then (some true) else (some false))))) = some true := by
  rw [if_neg (fun h => ltM_irr x ((lessM_iff x x).1 h))]
  by_cases h1 : lessM x y = true
  · rw [if_pos h1, if_neg (fun h => ltM_irr x (ltM_trans ((lessM_iff x y).1 h1) ((lessM_iff y x).1 h)))]
    by_cases h2 : lessM y z = true
    · rw [if_pos h2, (lessM_iff x z).2 (ltM_trans ((lessM_iff x y).1 h1) ((lessM_iff y z).1 h2))]
    · rw [if_neg h2]
  · rw [if_neg h1]
    by_cases h2 : lessM y x = true
    · rw [if_pos h2]
    · rw [if_neg h2]
      rcases ltM_tri x y with h | h | h
      · exact absurd ((lessM_iff x y).2 h) h1
      · simp [h.1, h.2.1, h.2.2]
      · exact absurd ((lessM_iff y x).2 h) h2
theorem laws_FnOrder.pure : ∀ (a0_0 : Int) (a0_1 : ByteArray) (a0_2 : ByteArray) (a1_0 : Int) (a1_1 : ByteArray) (a1_2 : ByteArray) (a2_0 : Int) (a2_1 : ByteArray) (a2_2 : ByteArray), ∃ k, laws_FnOrder.f k a0_0 a0_1 a0_2 a1_0 a1_1 a1_2 a2_0 a2_1 a2_2 = some true := by
  intro a0 a1 a2 b0 b1 b2 c0 c1 c2
  refine ⟨10, ?_⟩
  have key : ∀ g : Bool, laws_FnOrder.j0 10 g a0 a1 a2 b0 b1 b2 c0 c1 c2 = some true := by
    intro g
    simp only [laws_FnOrder.j0]
    cases g
    · rw [if_neg (by simp)]
      have e0 : impl_Before.f ([⟨0, ⟨#[97]⟩, ⟨#[]⟩⟩, ⟨0, ⟨#[98]⟩, ⟨#[]⟩⟩] : List S30) 0 1 = some true := by
        have := before_of (l := ([⟨0, ⟨#[97]⟩, ⟨#[]⟩⟩, ⟨0, ⟨#[98]⟩, ⟨#[]⟩⟩] : List S30)) (a := 0) (b := 1) (by simp) (by simp) (by simp)
        refine this.trans ?_
        congr 1
        rw [lessM_iff]
        refine Or.inl ?_
        rw [rd_toList, rd_toList]
        decide
      rw [e0]
      simp only [Option.bind_some, if_true]
      rw [typed_is _ (by simp) 9 (by simp)]
      simp only [Option.bind_some]
      cases hb : (([⟨a0, a1, a2⟩, ⟨b0, b1, b2⟩, ⟨c0, c1, c2⟩] : List S30).all typeM && decide (([⟨a0, a1, a2⟩, ⟨b0, b1, b2⟩, ⟨c0, c1, c2⟩] : List S30).length ≤ 2000))
      · rw [if_neg (by simp)]
      · rw [if_pos rfl]
        have h01 := before_of (l := ([⟨a0, a1, a2⟩, ⟨b0, b1, b2⟩, ⟨c0, c1, c2⟩] : List S30)) (a := 0) (b := 1) (by simp) (by simp) (by simp)
        have h10 := before_of (l := ([⟨a0, a1, a2⟩, ⟨b0, b1, b2⟩, ⟨c0, c1, c2⟩] : List S30)) (a := 1) (b := 0) (by simp) (by simp) (by simp)
        have h12 := before_of (l := ([⟨a0, a1, a2⟩, ⟨b0, b1, b2⟩, ⟨c0, c1, c2⟩] : List S30)) (a := 1) (b := 2) (by simp) (by simp) (by simp)
        have h02 := before_of (l := ([⟨a0, a1, a2⟩, ⟨b0, b1, b2⟩, ⟨c0, c1, c2⟩] : List S30)) (a := 0) (b := 2) (by simp) (by simp) (by simp)
        have h00 := before_of (l := ([⟨a0, a1, a2⟩, ⟨b0, b1, b2⟩, ⟨c0, c1, c2⟩] : List S30)) (a := 0) (b := 0) (by simp) (by simp) (by simp)
        simp only [Int.natCast_zero, Int.ofNat_one, Int.cast_ofNat_Int, List.getElem_cons_zero, List.getElem_cons_succ] at h01 h10 h12 h02 h00
        rw [h01, h10, h12, h02, h00]
        exact order_of ⟨a0, a1, a2⟩ ⟨b0, b1, b2⟩ ⟨c0, c1, c2⟩
    · rw [if_pos rfl]
  unfold laws_FnOrder.f
  rw [fits4_is, fits4_is, fits4_is]
  simp only [Option.bind_some, key]
  repeat' split
  all_goals rfl
end Go.Proofs.Ytbcijcmmpbkkbaa.Q
