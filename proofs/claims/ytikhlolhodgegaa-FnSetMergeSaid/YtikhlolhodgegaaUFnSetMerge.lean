/- Merged sets: the law FnSetMerge over the functions that the program comes to, for every input. No condition. -/
import Derived.Test.YtikhlolhodgegaaUIdem
import Derived.Test.YtikhlolhodgegaaUFits
import Derived.Test.YtikhlolhodgegaaUPairs
import Derived.Test.YtikhlolhodgegaaQlawsFnSetMerge
set_option linter.unusedVariables false
set_option linter.unusedSimpArgs false
namespace Go.Proofs.Ytikhlolhodgegaa.Q
open Go.RowKit Go.Proofs.YtikhlolhodgegaaW.PrintWords Go.Proofs.YtikhlolhodgegaaW.PrintLast Go.Proofs.YtikhlolhodgegaaW.PrintMore
theorem rd_natSP (l : List S59) (n : Nat) (h : n < l.length) : rd_T59 l (n : Int) = l[n] := by simp [rd_T59, List.getD_eq_getElem?_getD, List.getElem?_eq_getElem h]
theorem eqSets_from (S : List S59) (hl : S.length ≤ 9223372036854775807) (d : Nat) : ∀ (n k : Nat), n + d = S.length → d < k → laws_eqSets.l0 k S S (S.length : Int) n = some true := by
  induction d with
  | zero =>
    intro n k hn hk
    obtain ⟨k, rfl⟩ : ∃ m, k = m + 1 := ⟨k - 1, by omega⟩
    simp only [laws_eqSets.l0]
    rw [if_neg (by omega)]
  | succ d ih =>
    intro n k hn hk
    obtain ⟨k, rfl⟩ : ∃ m, k = m + 1 := ⟨k - 1, by omega⟩
    have e2 : wrap64 ((n : Int) + 1) = ((n + 1 : Nat) : Int) := by unfold wrap64; omega
    simp only [laws_eqSets.l0]
    rw [if_pos (by omega), if_pos (by omega), if_pos (by omega), if_pos (by omega), rd_natSP S n (by omega), e2, if_neg (by simp), ih (n + 1) k (by omega) (by omega)]
theorem eqSets_is {x y : List S26} (hx : x.length ≤ 1000000000) (hy : y.length ≤ 1000000000) (k : Nat) (hk : x.length + y.length + 10 < k) (h : setGo (x.map conv) [] = setGo (y.map conv) []) : laws_eqSets.f k x y = some true := by
  unfold laws_eqSets.f
  have sx : spec_Set.f (x.map conv) = some (setGo (x.map conv) []) := if_pos (by simp; omega)
  have sy : spec_Set.f (y.map conv) = some (setGo (y.map conv) []) := if_pos (by simp; omega)
  have hlen := Sset_len (y.map conv) []
  simp at hlen
  rw [pairs_is x (by omega) k (by omega)]
  simp only [Option.bind_some]
  rw [sx]
  simp only [Option.bind_some]
  rw [pairs_is y (by omega) k (by omega)]
  simp only [Option.bind_some]
  rw [sy]
  simp only [Option.bind_some]
  rw [h, if_pos rfl]
  exact eqSets_from _ (by omega) (setGo (y.map conv) []).length 0 k (by omega) (by omega)
theorem shortOfM {l : List S26} (h : fitsPs l = true) : shortPairs l := by
  simp [fitsPs, fitsP] at h
  intro p hp
  have := h.2 p hp
  omega
theorem merged_len (a b : List S26) : (mergedL a b).length ≤ a.length + b.length := by
  unfold mergedL
  have := Sset_len ((a ++ b).map conv) []
  simp at this ⊢
  omega
def pA : S59 := ⟨⟨#[97]⟩, ⟨#[]⟩⟩
def pB : S59 := ⟨⟨#[98]⟩, ⟨#[]⟩⟩
theorem two_is : mergedL [⟨⟨#[97]⟩, ⟨#[]⟩⟩] [⟨⟨#[98]⟩, ⟨#[]⟩⟩] = [⟨⟨#[97]⟩, ⟨#[]⟩⟩, ⟨⟨#[98]⟩, ⟨#[]⟩⟩] := by
  have h1 : ltP pA pB = true := by unfold ltP; rw [Lib.toList_data, Lib.toList_data]; decide
  have h2 : neP pA pB = true := by unfold neP; rw [Lib.toList_data, Lib.toList_data]; decide
  have e : setGo [pA, pB] [] = [pA, pB] := by simp [setGo, setStep, insP, h1, h2]
  show (setGo [pA, pB] []).map unconv = _
  rw [e]
  rfl
theorem laws_FnSetMerge.pure : ∀ (l0 : List S26) (l1 : List S26), l0.length ≤ 9223372036854775807 → l1.length ≤ 9223372036854775807 → ∃ k, laws_FnSetMerge.f k l0 l1 = some true := by
  intro a b ha hb
  refine ⟨a.length + b.length + (a.length + b.length) + 20, ?_⟩
  have jt : laws_FnSetMerge.j0 (a.length + b.length + (a.length + b.length) + 20) a b true = some true := by simp only [laws_FnSetMerge.j0, if_true]
  have kt : laws_FnSetMerge.j1 (a.length + b.length + (a.length + b.length) + 19) a b true = some true := by simp only [laws_FnSetMerge.j1, if_true]
  unfold laws_FnSetMerge.f
  rw [fits1_is a _ (by omega)]
  simp only [Option.bind_some]
  cases hf : fitsPs a
  · rw [if_neg (by simp)]; exact jt
  · rw [if_pos rfl, fits1_is b _ (by omega)]
    simp only [Option.bind_some]
    cases hg : fitsPs b
    · rw [Bool.not_false]; exact jt
    · simp only [Bool.not_true, laws_FnSetMerge.j0]
      rw [if_neg (by simp)]
      have e0 : impl_SetMerge.f ([⟨⟨#[97]⟩, ⟨#[]⟩⟩] : List S26) [⟨⟨#[98]⟩, ⟨#[]⟩⟩] = some [⟨⟨#[97]⟩, ⟨#[]⟩⟩, ⟨⟨#[98]⟩, ⟨#[]⟩⟩] := by
        exact (if_pos ⟨by simp, by simp, (by intro p hp; rw [List.mem_singleton.1 hp]; decide), (by intro p hp; rw [List.mem_singleton.1 hp]; decide)⟩ : impl_SetMerge.f _ _ = some (mergedL _ _)).trans (congrArg some two_is)
      rw [e0]
      simp only [Option.bind_some, laws_much.f]
      rw [if_pos (by rfl)]
      by_cases h1 : (a.length : Int) > 300
      · rw [if_pos (decide_eq_true h1)]; exact kt
      rw [if_neg (by simpa using h1)]
      by_cases h2 : (b.length : Int) > 300
      · rw [decide_eq_true h2]; exact kt
      rw [decide_eq_false h2]
      simp only [laws_FnSetMerge.j1]
      have em : impl_SetMerge.f a b = some (mergedL a b) := if_pos ⟨by omega, by omega, shortOfM hf, shortOfM hg⟩
      rw [if_neg (by simp), em]
      simp only [Option.bind_some, List.length_nil, List.nil_append]
      have hm := merged_len a b
      have hab : (a ++ b).length = a.length + b.length := List.length_append
      rw [if_pos (by omega), if_pos (by omega), eqSets_is (by omega) (by simp; omega) _ (by omega) (merged_set a b)]
      rfl
end Go.Proofs.Ytikhlolhodgegaa.Q
