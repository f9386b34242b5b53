/- Two sets together: the law FnSetMerged over the functions that the program comes to, for every input. No condition. -/
import Derived.Test.YtikhlolhodgegaaUEqPairs
import Derived.Test.YtikhlolhodgegaaUFits
import Derived.Test.YtikhlolhodgegaaUPairs
import Derived.Test.YtikhlolhodgegaaQlawsFnSetMerged
set_option linter.unusedVariables false
set_option linter.unusedSimpArgs false
namespace Go.Proofs.Ytikhlolhodgegaa.Q
open Go.RowKit Go.Proofs.YtikhlolhodgegaaW.PrintWords Go.Proofs.YtikhlolhodgegaaW.PrintLast Go.Proofs.YtikhlolhodgegaaW.PrintMore
theorem shortOfD {l : List S26} (h : fitsPs l = true) : shortPairs l := by
  simp [fitsPs, fitsP] at h
  intro p hp
  have := h.2 p hp
  omega
theorem merged_lenD (a b : List S26) : (mergedL a b).length ≤ a.length + b.length := by
  unfold mergedL
  have := Sset_len ((a ++ b).map conv) []
  simp at this ⊢
  omega
theorem oneD : mergedL [⟨⟨#[97]⟩, ⟨#[]⟩⟩] [] = [⟨⟨#[97]⟩, ⟨#[]⟩⟩] := by
  show (setGo [_] []).map unconv = _
  rw [setGo_one]
  rfl
theorem laws_FnSetMerged.pure : ∀ (l0 : List S26) (l1 : List S26), l0.length ≤ 9223372036854775807 → l1.length ≤ 9223372036854775807 → ∃ k, laws_FnSetMerged.f k l0 l1 = some true := by
  intro a b ha hb
  refine ⟨a.length + b.length + 20, ?_⟩
  have jt : laws_FnSetMerged.j0 (a.length + b.length + 20) a b true = some true := by simp only [laws_FnSetMerged.j0, if_true]
  unfold laws_FnSetMerged.f
  rw [fits1_is a _ (by omega)]
  simp only [Option.bind_some]
  cases hf : fitsPs a
  · rw [if_neg (by simp)]; exact jt
  rw [if_pos rfl, fits1_is b _ (by omega)]
  simp only [Option.bind_some]
  cases hg : fitsPs b
  · rw [Bool.not_false]; exact jt
  simp only [Bool.not_true, laws_FnSetMerged.j0]
  rw [if_neg (by simp)]
  have e0 : impl_SetMerge.f ([⟨⟨#[97]⟩, ⟨#[]⟩⟩] : List S26) [] = some [⟨⟨#[97]⟩, ⟨#[]⟩⟩] :=
    (if_pos ⟨by simp, by simp, (by intro p hp; rw [List.mem_singleton.1 hp]; decide), (by intro p hp; cases hp)⟩ : impl_SetMerge.f _ _ = some (mergedL _ _)).trans (congrArg some oneD)
  rw [e0]
  simp only [Option.bind_some, laws_much.f]
  rw [if_pos (by rfl)]
  by_cases h1 : (a.length : Int) > 300
  · rw [if_pos (decide_eq_true h1)]
  rw [if_neg (by simpa using h1)]
  by_cases h2 : (b.length : Int) > 300
  · rw [if_pos (decide_eq_true h2)]
  rw [if_neg (by simpa using h2)]
  have em : impl_SetMerge.f a b = some (mergedL a b) := if_pos ⟨by omega, by omega, shortOfD hf, shortOfD hg⟩
  have hm := merged_lenD a b
  have hmc : (mergedL a b).map conv = setGo (a.map conv ++ b.map conv) [] := by
    unfold mergedL
    rw [conv_unconv, List.map_append]
  have la := Sset_len (a.map conv) []
  have lb := Sset_len (b.map conv) []
  simp at la lb
  have sA : spec_Set.f (a.map conv) = some (setGo (a.map conv) []) := if_pos (by simp; omega)
  have sB : spec_Set.f (b.map conv) = some (setGo (b.map conv) []) := if_pos (by simp; omega)
  have sAB : spec_Set.f (a.map conv ++ b.map conv) = some (setGo (a.map conv ++ b.map conv) []) := if_pos (by simp; omega)
  have sM : spec_Set.f (setGo (a.map conv) [] ++ setGo (b.map conv) []) = some (setGo (a.map conv ++ b.map conv) []) := (if_pos (by simp; omega) : spec_Set.f _ = some (setGo _ [])).trans (congrArg some (setGo_setGo _ _))
  have eM : spec_SetMerge.f (a.map conv) (b.map conv) = some (setGo (a.map conv ++ b.map conv) []) := by
    unfold spec_SetMerge.f
    rw [sA, sB]
    simp only [Option.bind_some, List.nil_append, List.length_nil]
    rw [if_pos (by omega), if_pos (by omega), sM]
    rfl
  rw [em, pairs_is a (by omega) _ (by omega), pairs_is b (by omega) _ (by omega)]
  simp only [Option.bind_some]
  rw [if_pos (by simp; omega), sAB]
  simp only [Option.bind_some]
  rw [eqPairs_is _ _ hmc.symm (by omega) _ (by omega)]
  simp only [Option.bind_some]
  rw [if_pos trivial, eM]
  simp only [Option.bind_some]
  rw [eqPairs_is _ _ hmc.symm (by omega) _ (by omega)]
  rfl
end Go.Proofs.Ytikhlolhodgegaa.Q
