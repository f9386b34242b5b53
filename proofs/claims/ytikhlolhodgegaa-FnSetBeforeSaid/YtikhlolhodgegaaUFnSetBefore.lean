/- The order of sets: the law FnSetBefore over the functions that the program comes to, for every input. No condition. -/
import Derived.Test.YtikhlolhodgegaaUBefore
import Derived.Test.YtikhlolhodgegaaQlawsFnSetBefore
set_option linter.unusedVariables false
set_option linter.unusedSimpArgs false
namespace Go.Proofs.Ytikhlolhodgegaa.Q
open Go.RowKit Go.Proofs.YtikhlolhodgegaaW.PrintWords Go.Proofs.YtikhlolhodgegaaW.PrintLast Go.Proofs.YtikhlolhodgegaaW.PrintMore
theorem shortOfB {l : List S26} (h : fitsPs l = true) : shortPairs l := by
  simp [fitsPs, fitsP] at h
  intro p hp
  have := h.2 p hp
  omega
theorem bef_first : befP (setGo (([] : List S26).map conv) []) (setGo (([⟨⟨#[97]⟩, ⟨#[]⟩⟩] : List S26).map conv) []) = true := by simp [setGo, setStep, insP, conv, befP]
theorem laws_FnSetBefore.pure : ∀ (l0 : List S26) (l1 : List S26), l0.length ≤ 9223372036854775807 → l1.length ≤ 9223372036854775807 → ∃ k, laws_FnSetBefore.f k l0 l1 = some true := by
  intro a b ha hb
  refine ⟨a.length + b.length + (a.length + b.length) + 20, ?_⟩
  have jt : ∀ k, laws_FnSetBefore.j0 (k + 1) a b true = some true := fun k => by simp only [laws_FnSetBefore.j0, if_true]
  have kt : ∀ k, laws_FnSetBefore.j1 (k + 1) a b true = some true := fun k => by simp only [laws_FnSetBefore.j1, if_true]
  unfold laws_FnSetBefore.f
  rw [fits1_is a _ (by omega)]
  simp only [Option.bind_some]
  cases hf : fitsPs a
  · rw [if_neg (by simp)]; exact jt _
  rw [if_pos rfl, fits1_is b _ (by omega)]
  simp only [Option.bind_some]
  cases hg : fitsPs b
  · rw [Bool.not_false]; exact jt _
  have e0 : impl_SetBefore.f ([] : List S26) [⟨⟨#[97]⟩, ⟨#[]⟩⟩] = some true := (if_pos ⟨by simp, by simp, (by intro p hp; cases hp), (by intro p hp; rw [List.mem_singleton.1 hp]; decide)⟩ : impl_SetBefore.f _ _ = some (befP _ _)).trans (congrArg some bef_first)
  simp only [Bool.not_true, laws_FnSetBefore.j0]
  rw [if_neg (by simp), e0]
  simp only [Option.bind_some, laws_much.f]
  rw [if_pos trivial]
  by_cases h1 : (a.length : Int) > 300
  · rw [if_pos (decide_eq_true h1)]; exact kt _
  rw [if_neg (by simpa using h1)]
  by_cases h2 : (b.length : Int) > 300
  · rw [decide_eq_true h2]; exact kt _
  rw [decide_eq_false h2]
  simp only [laws_FnSetBefore.j1]
  have e1 : impl_SetBefore.f a b = some (befP (setGo (a.map conv) []) (setGo (b.map conv) [])) := if_pos ⟨by omega, by omega, shortOfB hf, shortOfB hg⟩
  rw [if_neg (by simp), e1, lesser_is a b (by omega) (by omega) _ (by omega), pairs_is a (by omega) _ (by omega), pairs_is b (by omega) _ (by omega)]
  simp only [Option.bind_some]
  rw [if_pos (by simp), specBef_is (a.map conv) (b.map conv) (by rw [List.length_map]; omega) (by rw [List.length_map]; omega) _ (by rw [List.length_map, List.length_map]; omega)]
  simp
end Go.Proofs.Ytikhlolhodgegaa.Q
