/- FnTokensPeeked: a look ahead changes no token: for every text and every list of looks. -/
import Derived.Test.YtlpcbmgleecafaaDoorQlawsFnTokensPeeked
import Derived.Test.YtlpcbmgleecafaaDoorHTokensP
import Derived.Test.YtlpcbmgleecafaaDoorULexT
import Derived.Test.YtlpcbmgleecafaaDoorUBy
set_option linter.unusedVariables false
set_option linter.unusedSimpArgs false
namespace Go.Proofs.YtlpcbmgleecafaaDoor.Q
open Go.RowKit Go.Proofs.YtlpcbmgleecafaaDoorW.PrintWords Go.Proofs.YtlpcbmgleecafaaDoorW.PrintLast Go.Proofs.YtlpcbmgleecafaaDoorW.PrintMore
theorem peek_loop (x : List S26) (hx : x.length ≤ 1000000) : Ev (fun k => laws_FnTokensPeeked.l0 k x x (x.length : Int) 0) true := by
  have key : ∀ (n i : Nat), i + n = x.length → Ev (fun k => laws_FnTokensPeeked.l0 k x x (x.length : Int) (i : Int)) true := by
    intro n
    induction n with
    | zero =>
      intro i hi
      refine Ev.now 1 (fun k => ?_)
      simp only [laws_FnTokensPeeked.l0]
      rw [if_neg (by omega)]
    | succ n ih =>
      intro i hi
      refine Ev.step (ih (i + 1) (by omega)) 1 (fun k => ?_)
      simp only [laws_FnTokensPeeked.l0]
      rw [if_pos (by omega), if_pos (by omega), if_pos (by omega), if_pos (by omega), if_neg (by simp), w64s i (by omega)]
  exact key x.length 0 (by omega)
theorem laws_FnTokensPeeked.pure : ∀ (a0 : ByteArray) (l1 : List Bool), a0.size ≤ 140737488351232 → l1.length ≤ 9223372036854775807 → ∃ k, laws_FnTokensPeeked.f k a0 l1 = some true := by
  intro a0 l1 _ hl1
  apply Ev.has
  have j0t : Ev (fun k => laws_FnTokensPeeked.j0 k a0 l1 true) true := Ev.now 1 (fun k => by simp only [laws_FnTokensPeeked.j0]; rfl)
  unfold laws_FnTokensPeeked.f
  by_cases hbig : (a0.size : Int) > 2147483647
  · exact Ev.iteT hbig j0t
  refine Ev.iteF hbig ?_
  cases hd : decide ((l1.length : Int) > 2147483647)
  · have hbr : impl_TokensPeeked.f (⟨#[123, 32, 97, 32, 125]⟩ : ByteArray) ([true] : List Bool) = some ([⟨1, ⟨#[123]⟩, 0, 1, 0, 1⟩, ⟨9, ⟨#[97]⟩, 2, 3, 2, 3⟩, ⟨2, ⟨#[125]⟩, 4, 5, 4, 5⟩], true) := by
      unfold impl_TokensPeeked.f
      rw [if_pos (by decide)]
      exact congrArg some brace_toks
    have hj1 : Ev (fun k => laws_FnTokensPeeked.j1 k a0 l1 false) true := by
      by_cases hlong : (a0.size : Int) > 65536
      · refine Ev.now 1 (fun k => ?_)
        simp only [laws_FnTokensPeeked.j1, laws_long.f]
        rw [if_neg (by decide), Option.bind_some, if_pos (decide_eq_true hlong)]
      · have h1 : impl_Tokens.f a0 = some (toksF a0 (a0.size + 2) lx0) := by unfold impl_Tokens.f; rw [if_pos (by omega)]
        have h2 : impl_TokensPeeked.f a0 l1 = some (toksF a0 (a0.size + 2) lx0) := by unfold impl_TokensPeeked.f; rw [if_pos ⟨by omega, hl1⟩]
        have hlen : ∀ (n : Nat) (x : LSt), (toksF a0 n x).1.length ≤ n := fun n => by
          induction n with
          | zero => intro x; exact Nat.le_refl _
          | succ n ih =>
            intro x
            unfold toksF
            split
            · exact Nat.zero_le _
            · exact Nat.zero_le _
            · exact Nat.succ_le_succ (ih _)
        have hj2 := peek_loop (toksF a0 (a0.size + 2) lx0).1 (by have := hlen (a0.size + 2) lx0; omega)
        generalize toksF a0 (a0.size + 2) lx0 = t at *
        refine Ev.step hj2 2 (fun k => ?_)
        simp only [laws_FnTokensPeeked.j1, laws_FnTokensPeeked.j2, laws_long.f]
        rw [if_neg (by decide), Option.bind_some, if_neg (by simpa using hlong), h1, Option.bind_some, h2, Option.bind_some]
        simp
    refine Ev.step hj1 1 (fun k => ?_)
    simp only [laws_FnTokensPeeked.j0]
    rw [if_neg (by decide), hbr]
    rfl
  · exact j0t
end Go.Proofs.YtlpcbmgleecafaaDoor.Q
