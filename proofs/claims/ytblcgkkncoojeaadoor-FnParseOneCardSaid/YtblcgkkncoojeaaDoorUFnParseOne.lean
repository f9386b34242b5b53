/- FnParseOne -/
import Derived.Test.YtblcgkkncoojeaaDoorQlawsFnParseOne
import Derived.Test.YtblcgkkncoojeaaDoorUParL
set_option linter.unusedVariables false
set_option linter.unusedSimpArgs false
namespace Go.Proofs.YtblcgkkncoojeaaDoor.Q
open Go.RowKit Go.Proofs.YtblcgkkncoojeaaDoorW.PrintWords Go.Proofs.YtblcgkkncoojeaaDoorW.PrintLast Go.Proofs.YtblcgkkncoojeaaDoorW.PrintMore
theorem laws_FnParseOne.pure : ∀ (a0 : ByteArray), a0.size ≤ 140737488351232 → ∃ k, laws_FnParseOne.f k a0 = some true := by
  intro a0 hs
  obtain ⟨b, hb⟩ := has_f a0 126 hs
  refine ⟨a0.size + 1, ?_⟩
  unfold laws_FnParseOne.f
  by_cases h1 : (a0.size : Int) > 2147483647
  · rw [if_pos h1]
  · rw [if_neg h1, one_f, Option.bind_some, if_pos rfl, laws_long.f, Option.bind_some]
    have hj : ∀ c, (c = false → a0.size ≤ 65536) → laws_FnParseOne.j0 (a0.size + 1) a0 c = some true := by
      intro c hc
      rw [laws_FnParseOne.j0]
      cases c with
      | true => rw [if_pos rfl]
      | false =>
        have hz := hc rfl
        rw [if_neg (by decide), pm_f a0 (by omega), p1_f a0 (by omega), Option.bind_some, Option.bind_some]
        unfold pmR p1R parM
        have hlen := fun l => parF_size (l := l) (a0 := a0) (by omega)
        cases hp : parF a0 with
        | none => rfl
        | some l =>
          have := hlen l hp
          match l with
          | [] => rfl
          | [m] =>
            simp [oneM, rd_T38]
          | m :: m2 :: l =>
            have e : (((m :: m2 :: l).length : Int) == 1) = false := beq_eq_false_iff_ne.2 (by simp; omega)
            show (if true = true then (if (false != (((m :: m2 :: l).length : Int) == 1)) = true then some false else (if false = true then _ else some true)) else _) = some true
            rw [if_pos rfl, e]
            rfl
    by_cases h2 : (a0.size : Int) > 65536
    · rw [if_pos (by simpa using h2)]
      exact hj true (fun e => by cases e)
    · rw [if_neg (by simpa using h2), hb _ (by omega), Option.bind_some]
      exact hj b (fun _ => by omega)
end Go.Proofs.YtblcgkkncoojeaaDoor.Q
