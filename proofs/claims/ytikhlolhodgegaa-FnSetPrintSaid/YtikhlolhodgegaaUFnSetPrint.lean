/- The fingerprint of a set: the law FnSetPrint over the functions that the program comes to, for every input. No condition. -/
import Derived.Test.YtikhlolhodgegaaUPrintOf
import Derived.Test.YtikhlolhodgegaaUFits
import Derived.Test.YtikhlolhodgegaaQlawsFnSetPrint
set_option linter.unusedVariables false
set_option linter.unusedSimpArgs false
namespace Go.Proofs.Ytikhlolhodgegaa.Q
open Go.RowKit Go.Proofs.YtikhlolhodgegaaW.PrintWords Go.Proofs.YtikhlolhodgegaaW.PrintLast Go.Proofs.YtikhlolhodgegaaW.PrintMore
theorem laws_FnSetPrint.pure : ∀ (l0 : List S26), l0.length ≤ 9223372036854775807 → ∃ k, laws_FnSetPrint.f k l0 = some true := by
  intro l hl
  obtain ⟨B, hB⟩ : ∃ B : Nat, B = 2147483647 := ⟨_, rfl⟩
  refine ⟨l.length + B + 20, ?_⟩
  unfold laws_FnSetPrint.f
  rw [fits1_is l _ (by omega)]
  simp only [Option.bind_some]
  cases hf : fitsPs l
  · rw [if_neg (by simp)]
  rw [if_pos rfl]
  simp only [Option.bind_some, laws_much.f]
  by_cases h1 : (l.length : Int) > 300
  · rw [if_pos (decide_eq_true h1)]
  rw [if_neg (by simpa using h1)]
  have hs : ∀ p ∈ l, p.f0.size ≤ B ∧ p.f1.size ≤ B := fun p hp => by
    simp [fitsPs, fitsP] at hf
    have := hf.2 p hp
    omega
  have hsh : shortPairs l := fun p hp => by have := hs p hp; omega
  have hsc : ∀ p ∈ l.map conv, p.f0.size ≤ B ∧ p.f1.size ≤ B := fun q hq => by
    obtain ⟨p, hp, rfl⟩ := List.mem_map.1 hq
    exact hs p hp
  have e1 : impl_SetPrint.f l = some (printV ((setGo (l.map conv) []).map unconv)) := if_pos ⟨by omega, hsh⟩
  have e2 : impl_Signature.f l = some (printV ((setGo (l.map conv) []).map unconv)) := if_pos ⟨by omega, hsh⟩
  rw [e1, e2, printV_is]
  simp only [Option.bind_some]
  rw [printOf_is l B (by omega) (by omega) hs _ (by omega), pairs_is l (by omega) _ (by omega)]
  simp only [Option.bind_some]
  rw [if_pos trivial, if_pos trivial, specPrint_is (l.map conv) B (by rw [List.length_map]; omega) (by omega) hsc _ (by rw [List.length_map]; omega)]
  simp
end Go.Proofs.Ytikhlolhodgegaa.Q
