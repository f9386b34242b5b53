/- FnReadPrinted: what is read of a text is printed as a text of which the same is read, for every text. -/
import Derived.Test.YtnnhehlieakedaaGreatDoorQlawsFnReadPrinted
import Derived.Test.YtnnhehlieakedaaGreatDoorUPrAll
set_option linter.unusedVariables false
set_option linter.unusedSimpArgs false
namespace Go.Proofs.YtnnhehlieakedaaGreatDoor.Q
open Go.RowKit Go.Lib Go.Proofs.YtnnhehlieakedaaGreatDoorW.PrintWords Go.Proofs.YtnnhehlieakedaaGreatDoorW.PrintLast Go.Proofs.YtnnhehlieakedaaGreatDoorW.PrintMore
theorem rp_j1 (l : List S25) (k : Nat) : laws_FnReadPrinted.j1 (k + 1) l true = some true := by
  rw [laws_FnReadPrinted.j1, if_pos rfl]
theorem rp_j0 (a0 : ByteArray) (h : a0.size ≤ 65536) (k : Nat) (hk : 1005 ≤ k) : laws_FnReadPrinted.j0 k a0 false = some true := by
  obtain ⟨k, rfl⟩ : ∃ j, k = j + 2 := ⟨k - 2, by omega⟩
  rw [laws_FnReadPrinted.j0, if_neg (by decide), pm_f a0 (by omega), Option.bind_some]
  unfold pmR
  cases hp : parF a0 with
  | none =>
    simp only
    rw [if_neg (by decide)]
    exact rp_j1 _ k
  | some l =>
    have hl := parF_size (by omega) hp
    show ((if (true : Bool) = true then (laws_allPlain.f l).bind fun t252 => laws_FnReadPrinted.j1 (k + 1) l !t252 else laws_FnReadPrinted.j1 (k + 1) l true)) = some true
    rw [if_pos rfl, all_f l (by omega), Option.bind_some]
    cases ha : l.all plaB && decide ((l.length : Int) ≤ 1000) with
    | false => exact rp_j1 _ k
    | true =>
      rw [Bool.and_eq_true] at ha
      have hn := of_decide_eq_true ha.2
      have hn' : l.length ≤ 1000 := by omega
      show laws_FnReadPrinted.j1 (k + 1) l false = some true
      rw [laws_FnReadPrinted.j1, if_neg (by decide), prl_f ha.1 hn', Option.bind_some, backl_f ha.1 hn', Option.bind_some]
      rw [if_pos (show ((l, true) : List S25 × Bool).2 = true from rfl), eqm_f l (by omega) k (by omega), Option.bind_some, if_pos rfl, prl_f ha.1 hn', Option.bind_some]
      simp
theorem laws_FnReadPrinted.pure : ∀ (a0 : ByteArray), a0.size ≤ 140737488351232 → ∃ k, laws_FnReadPrinted.f k a0 = some true := by
  intro a0 hs
  refine ⟨a0.size + 1010, ?_⟩
  unfold laws_FnReadPrinted.f
  by_cases h1 : (a0.size : Int) > 2147483647
  · rw [if_pos h1]
  rw [if_neg h1, one_f, Option.bind_some, if_pos rfl]
  unfold laws_long.f
  rw [Option.bind_some]
  have hj : ∀ k, laws_FnReadPrinted.j0 (k + 1) a0 true = some true := fun k => by rw [laws_FnReadPrinted.j0, if_pos rfl]
  by_cases h2 : (a0.size : Int) > 65536
  · rw [decide_eq_true h2, if_pos rfl]
    exact hj (a0.size + 1009)
  · rw [decide_eq_false h2, if_neg (by decide)]
    obtain ⟨b, hb⟩ := has_f a0 126 hs
    rw [hb _ (by omega), Option.bind_some]
    cases b with
    | true => exact hj (a0.size + 1009)
    | false => exact rp_j0 a0 (by omega) _ (by omega)
end Go.Proofs.YtnnhehlieakedaaGreatDoor.Q
