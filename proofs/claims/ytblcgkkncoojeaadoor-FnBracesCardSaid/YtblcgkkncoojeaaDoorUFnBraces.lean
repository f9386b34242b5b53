/- FnBraces -/
import Derived.Test.YtblcgkkncoojeaaDoorQlawsFnBraces
import Derived.Test.YtblcgkkncoojeaaDoorUParL
set_option linter.unusedVariables false
set_option linter.unusedSimpArgs false
namespace Go.Proofs.YtblcgkkncoojeaaDoor.Q
open Go.RowKit Go.Proofs.YtblcgkkncoojeaaDoorW.PrintWords Go.Proofs.YtblcgkkncoojeaaDoorW.PrintLast Go.Proofs.YtblcgkkncoojeaaDoorW.PrintMore
theorem laws_FnBraces.pure : ∀ (a0 : ByteArray), a0.size ≤ 140737488351232 → ∃ k, laws_FnBraces.f k a0 = some true := by
  intro a0 hs
  obtain ⟨b, hb⟩ := has_f a0 126 hs
  refine ⟨a0.size + 5, ?_⟩
  unfold laws_FnBraces.f
  by_cases h1 : (a0.size : Int) > 2147483647
  · rw [if_pos h1]
  · rw [if_neg h1, one_f, Option.bind_some, if_pos rfl]
    have hj : ∀ c, (c = false → a0.size ≤ 5000) → laws_FnBraces.j0 (a0.size + 5) a0 c = some true := by
      intro c hc
      rw [laws_FnBraces.j0]
      cases c with
      | true => rw [if_pos rfl]
      | false =>
        have hz := hc rfl
        have ht : impl_Tokens.f a0 = some (toksF a0 (a0.size + 2) lx0) := if_pos (by omega)
        rw [if_neg (by decide), ht, Option.bind_some]
        have tk := toks_TK (s := a0) (a0.size + 2) lx0 (lx0_good a0 (by omega)) (by have : lx0.p.toNat = 0 := rfl; omega)
        generalize toksF a0 (a0.size + 2) lx0 = o at *
        obtain ⟨l, ok⟩ := o
        have j1t : laws_FnBraces.j1 (a0.size + 4) a0 true = some true := by rw [laws_FnBraces.j1, if_pos rfl]
        cases ok with
        | false => exact (if_neg Bool.false_ne_true).trans j1t
        | true =>
          rw [if_pos rfl]
          match l, tk with
          | [], _ => exact j1t
          | t0 :: r, tk =>
            simp only [List.map_cons] at tk
            have e0 : rd_T28 (t0 :: r) 0 = t0 := rfl
            rw [if_neg (by simp <;> omega), if_pos (by simp <;> omega)]
            simp only [e0]
            by_cases hk : t0.f0 = 1
            · rw [hk]; exact j1t
            · have e1 : (t0.f0 == 1) = false := beq_eq_false_iff_ne.2 hk
              rw [e1]
              rw [laws_FnBraces.j1, if_neg (by decide), pm_f a0 (by omega), Option.bind_some]
              have hzz : (((⟨#[123]⟩ : ByteArray) ++ a0) ++ (⟨#[125]⟩ : ByteArray)).size = a0.size + 2 := by rw [ByteArray.size_append, ByteArray.size_append]; show 1 + a0.size + 1 = _; omega
              have hz2 : ((⟨#[123]⟩ : ByteArray) ++ a0).size = a0.size + 1 := by rw [ByteArray.size_append]; show 1 + a0.size = _; omega
              rw [if_pos (by omega), if_pos (by omega), pm_f _ (by omega), Option.bind_some]
              have e2 : pmR (((⟨#[123]⟩ : ByteArray) ++ a0) ++ (⟨#[125]⟩ : ByteArray)) = pmR a0 := by
                unfold pmR
                rw [parF_braces (by omega) tk hk]
              rw [e2, if_pos (by simp)]
              have hl : (pmR a0).1.length ≤ a0.size := by
                unfold pmR
                cases hp : parF a0 with
                | none => exact Nat.zero_le _
                | some l => exact parF_size (by omega) hp
              rw [eqm_f _ (by omega) _ (by omega)]
              rfl
    by_cases h2 : (a0.size : Int) > 5000
    · rw [if_pos h2]
      exact hj true (fun e => by cases e)
    · rw [if_neg h2, hb _ (by omega), Option.bind_some]
      exact hj b (fun _ => by omega)
end Go.Proofs.YtblcgkkncoojeaaDoor.Q
