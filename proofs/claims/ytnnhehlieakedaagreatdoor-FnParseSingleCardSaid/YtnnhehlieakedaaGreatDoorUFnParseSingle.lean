/- FnParseSingle: the matcher that a text is to the parser is the reference's, for every text. -/
import Derived.Test.YtnnhehlieakedaaGreatDoorQlawsFnParseSingle
import Derived.Test.YtnnhehlieakedaaGreatDoorUParL
set_option linter.unusedVariables false
set_option linter.unusedSimpArgs false
namespace Go.Proofs.YtnnhehlieakedaaGreatDoor.Q
open Go.RowKit Go.Lib Go.Proofs.YtnnhehlieakedaaGreatDoorW.PrintWords Go.Proofs.YtnnhehlieakedaaGreatDoorW.PrintLast Go.Proofs.YtnnhehlieakedaaGreatDoorW.PrintMore
theorem tilde_l0 (a0 : ByteArray) (hs : a0.size ≤ 140737488351232) : ∀ (n i : Nat), i + n = a0.size → ∃ b, (∀ k, n + 1 ≤ k → laws_has.l0 k a0 126 (i : Int) = some b) ∧ (b = false → ∀ j : Int, (i : Int) ≤ j → j < a0.size → (bt a0 j == 126) = false)
  | 0, i, h => ⟨false, fun k hk => by
    obtain ⟨k, rfl⟩ : ∃ j, k = j + 1 := ⟨k - 1, by omega⟩
    rw [laws_has.l0, if_neg (by omega)], fun _ j h1 h2 => by omega⟩
  | n + 1, i, h => by
    obtain ⟨b, hb, hf⟩ := tilde_l0 a0 hs n (i + 1) (by omega)
    have hi : (i : Int) < a0.size := by omega
    have hw := wrapQ i (by omega)
    by_cases hc : bt a0 (i : Int) = 126
    · refine ⟨true, fun k hk => ?_, fun e => by cases e⟩
      obtain ⟨k, rfl⟩ : ∃ j, k = j + 1 := ⟨k - 1, by omega⟩
      rw [laws_has.l0, if_pos hi, if_pos (Int.natCast_nonneg _), if_pos hc]
    · refine ⟨b, fun k hk => ?_, fun e j h1 h2 => ?_⟩
      · obtain ⟨k, rfl⟩ : ∃ j, k = j + 1 := ⟨k - 1, by omega⟩
        rw [laws_has.l0, if_pos hi, if_pos (Int.natCast_nonneg _), if_neg hc, hw]
        exact hb k (by clear hw hc; omega)
      · by_cases hij : j = (i : Int)
        · subst hij
          exact beq_eq_false_iff_ne.2 hc
        · exact hf e j (by clear hw hc; omega) h2
theorem tilde_f (a0 : ByteArray) (hs : a0.size ≤ 140737488351232) : ∃ b, (∀ k, a0.size + 1 ≤ k → laws_has.f k a0 126 = some b) ∧ (b = false → ∀ j : Int, 0 ≤ j → j < a0.size → (bt a0 j == 126) = false) := tilde_l0 a0 hs a0.size 0 (by omega)
theorem ref_f (a0 : ByteArray) (hs : a0.size ≤ 20000) (h : ∀ j : Int, 0 ≤ j → j < a0.size → (bt a0 j == 126) = false) : spec_ParseMatcher.f a0 = some ((pmOne (spT a0)).1.f0, (pmOne (spT a0)).1.f1, (pmOne (spT a0)).1.f2, (pmOne (spT a0)).2) := if_pos ⟨hs, h⟩
theorem oneL_M : ∀ o : Option (List S25), oneL o = oneM o
  | none => rfl
  | some [] => rfl
  | some [_] => rfl
  | some (_ :: _ :: _) => rfl
theorem laws_FnParseSingle.pure : ∀ (a0 : ByteArray), a0.size ≤ 140737488351232 → ∃ k, laws_FnParseSingle.f k a0 = some true := by
  intro a0 hs
  obtain ⟨b, hb, hf⟩ := tilde_f a0 hs
  refine ⟨a0.size + 1, ?_⟩
  unfold laws_FnParseSingle.f
  by_cases h1 : (a0.size : Int) > 2147483647
  · rw [if_pos h1]
  rw [if_neg h1, one_f, Option.bind_some, if_pos rfl]
  have hj : ∀ c, (c = false → a0.size ≤ 20000 ∧ ∀ j : Int, 0 ≤ j → j < a0.size → (bt a0 j == 126) = false) → laws_FnParseSingle.j0 (a0.size + 1) a0 c = some true := by
    intro c hc
    rw [laws_FnParseSingle.j0]
    cases c with
    | true => rw [if_pos rfl]
    | false =>
      obtain ⟨hz, ht⟩ := hc rfl
      rw [if_neg (by decide), p1_f a0 (by omega), ref_f a0 hz ht, Option.bind_some, Option.bind_some]
      obtain ⟨k0, k1⟩ := pmOne_say a0 hz
      simp only
      by_cases h1 : (pmOne (spT a0)).2 = 1
      · rw [if_pos h1]
        obtain ⟨m, hm, e⟩ := k1 h1
        rw [oneL_M] at hm
        have hp : parM a0 = some m := hm
        unfold p1R
        rw [hp, e]
        simp [cvM]
      · rw [if_neg h1]
        by_cases h0 : (pmOne (spT a0)).2 = 0
        · rw [if_pos h0]
          have hm := k0 h0
          rw [oneL_M] at hm
          have hp : parM a0 = none := hm
          unfold p1R
          rw [hp]
          rfl
        · rw [if_neg h0]
  by_cases h2 : (a0.size : Int) > 20000
  · rw [if_pos h2]
    exact hj true (fun e => by cases e)
  · rw [if_neg h2, hb _ (Nat.le_refl _), Option.bind_some]
    exact hj b (fun e => ⟨by omega, hf e⟩)
end Go.Proofs.YtnnhehlieakedaaGreatDoor.Q
