/- The text of a set: the law FnKVText over the functions that the program comes to, for every input. No condition. -/
import Derived.Test.YtikhlolhodgegaaUFits
import Derived.Test.YtikhlolhodgegaaQlawsFnKVText
set_option linter.unusedVariables false
set_option linter.unusedSimpArgs false
namespace Go.Proofs.Ytikhlolhodgegaa.Q
open Go.RowKit Go.Proofs.YtikhlolhodgegaaW.PrintWords Go.Proofs.YtikhlolhodgegaaW.PrintLast Go.Proofs.YtikhlolhodgegaaW.PrintMore
theorem oneT : kvO [⟨⟨#[97]⟩, ⟨#[98]⟩⟩] = [⟨⟨#[97]⟩, ⟨#[98]⟩⟩] := by
  have e : setGo ([⟨⟨#[97]⟩, ⟨#[98]⟩⟩].map conv) [] = [⟨⟨#[97]⟩, ⟨#[98]⟩⟩] := by simp [setGo, setStep, insP, conv]
  unfold kvO
  rw [e]
  have h : isAN (⟨⟨#[97]⟩, ⟨#[98]⟩⟩ : S59) = false := rfl
  simp [kvOrd, h, unconv]
theorem laws_FnKVText.pure : ∀ (l0 : List S26), l0.length ≤ 9223372036854775807 → ∃ k, laws_FnKVText.f k l0 = some true := by
  intro l hl
  refine ⟨l.length + 20, ?_⟩
  unfold laws_FnKVText.f
  rw [fits1_is l _ (by omega)]
  simp only [Option.bind_some]
  cases hf : fitsPs l
  · rw [if_neg (by simp)]
  rw [if_pos rfl]
  simp only [Option.bind_some, laws_much.f]
  by_cases h1 : (l.length : Int) > 300
  · rw [if_pos (decide_eq_true h1)]
  rw [if_neg (by simpa using h1)]
  have hs : smallP l := by
    simp [fitsPs, fitsP] at hf
    refine ⟨by omega, fun p hp => ?_⟩
    have := hf.2 p hp
    omega
  have e1 : impl_SortedPairs.f l = some (kvO l) := if_pos ⟨by omega, small_short hs⟩
  have e2 : impl_KVText.f l = some ⟨(txtL ((kvO l).map inP)).toArray⟩ := if_pos hs
  have e3 : impl_PairsText.f (kvO l) = some ⟨(txtL ((kvO l).map inP)).toArray⟩ := if_pos (small_kvO hs)
  have e4 : impl_KVText.f [⟨⟨#[97]⟩, ⟨#[98]⟩⟩] = some ⟨#[97, 61, 98]⟩ := (if_pos ⟨by simp, by intro p hp; rw [List.mem_singleton.1 hp]; decide⟩ : impl_KVText.f _ = some ⟨(txtL ((kvO _).map inP)).toArray⟩).trans (by rw [oneT]; rfl)
  rw [e1, e2]
  simp only [Option.bind_some]
  rw [e3, e4]
  simp only [Option.bind_some]
  rw [if_pos trivial]
  have e5 : ((⟨#[97, 61, 98]⟩ : ByteArray).toList == ([97, 61, 98] : List UInt8)) = true := by rw [Lib.toList_data]; decide
  rw [e5]
end Go.Proofs.Ytikhlolhodgegaa.Q
