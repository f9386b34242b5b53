/- A set without some names: the law FnWithout over the functions that the program comes to, for every input. No condition. -/
import Derived.Test.YtikhlolhodgegaaUSpecKv
import Derived.Test.YtikhlolhodgegaaUEqPairs
import Derived.Test.YtikhlolhodgegaaUFits
import Derived.Test.YtikhlolhodgegaaQlawsFnWithout
set_option linter.unusedVariables false
set_option linter.unusedSimpArgs false
namespace Go.Proofs.Ytikhlolhodgegaa.Q
open Go.RowKit Go.Proofs.YtikhlolhodgegaaW.PrintWords Go.Proofs.YtikhlolhodgegaaW.PrintLast Go.Proofs.YtikhlolhodgegaaW.PrintMore
theorem shortOfW {l : List S26} (h : fitsPs l = true) : shortPairs l := by
  simp [fitsPs, fitsP] at h
  intro p hp
  have := h.2 p hp
  omega
theorem fits6_is (l : List ByteArray) (k : Nat) (hk : l.length < k) : laws_zzFits6.f k l = some (decide (l.length ≤ 2147483647) && l.all (fun s => decide (s.size ≤ 2147483647))) := by
  unfold laws_zzFits6.f
  split
  · rw [decide_eq_false (by omega)]; rfl
  · rw [decide_eq_true (by omega), Bool.true_and]
    have := all_loop l (by omega) (fun s => decide (s.size ≤ 2147483647)) true (fun k x => laws_zzFits6.l0 k l (l.length : Int) x) ?_ ?_ k hk
    · simpa using this
    · intro k
      simp only [laws_zzFits6.l0]
      rw [if_neg (by omega)]
    · intro k n h
      simp only [laws_zzFits6.l0]
      rw [if_pos (by omega), if_pos (by omega), if_pos (by omega), rdS_nat l n h]
      by_cases hs : (l[n].size : Int) > 2147483647
      · rw [if_pos hs, if_neg (by simp; omega)]
      · rw [if_neg hs, if_pos (by simp; omega)]
theorem laws_FnWithout.pure : ∀ (l0 : List S26) (l1 : List ByteArray), l0.length ≤ 9223372036854775807 → l1.length ≤ 9223372036854775807 → ∃ k, laws_FnWithout.f k l0 l1 = some true := by
  intro l names hl hn
  refine ⟨l.length * (names.length + 2) + l.length + names.length + 30, ?_⟩
  generalize hM : l.length * (names.length + 2) = M
  have jt : ∀ k, laws_FnWithout.j0 (k + 1) l names true = some true := fun k => by simp only [laws_FnWithout.j0, if_true]
  have kt : ∀ k, laws_FnWithout.j1 (k + 1) l names true = some true := fun k => by simp only [laws_FnWithout.j1, if_true]
  unfold laws_FnWithout.f
  rw [fits1_is l _ (by omega)]
  simp only [Option.bind_some]
  cases hf : fitsPs l
  · rw [if_neg (by simp)]; exact jt _
  rw [if_pos rfl, fits6_is names _ (by omega)]
  simp only [Option.bind_some]
  cases hg : (decide (names.length ≤ 2147483647) && names.all (fun s => decide (s.size ≤ 2147483647)))
  · rw [Bool.not_false]; exact jt _
  simp only [Bool.not_true, laws_FnWithout.j0]
  rw [if_neg (by simp)]
  simp only [laws_much.f, Option.bind_some]
  by_cases h1 : (l.length : Int) > 300
  · rw [if_pos (decide_eq_true h1)]; exact kt _
  rw [if_neg (by simpa using h1)]
  by_cases h2 : (names.length : Int) > 300
  · rw [decide_eq_true h2]; exact kt _
  rw [decide_eq_false h2]
  simp only [laws_FnWithout.j1]
  rw [if_neg (by simp)]
  have hgs : ∀ s ∈ names, s.size ≤ 140737488355328 := fun s hs => by
    simp at hg
    have := hg.2 s hs
    omega
  have e1 : impl_Without.f l names = some ((kvOrd ((setGo (l.map conv) []).filter (keepN names))).map unconv) := if_pos ⟨by omega, by omega, shortOfW hf, hgs⟩
  have hlen := Sset_len (l.map conv) []
  simp at hlen
  have hX := setGo_sorted (l.map conv)
  have hko := kvOrd_len (setGo (l.map conv) [])
  have hfl := List.length_filter_le (keepN names) (kvOrd (setGo (l.map conv) []))
  have hko2 := kvOrd_len ((setGo (l.map conv) []).filter (keepN names))
  have hfl2 := List.length_filter_le (keepN names) (setGo (l.map conv) [])
  rw [e1, pairs_is l (by omega) _ (by omega)]
  simp only [Option.bind_some]
  rw [specWithout_is (l.map conv) (by simp; omega) names (by omega) _ (by rw [List.length_map, hM]; omega)]
  simp only [Option.bind_some]
  rw [specSorted_is _ (by omega) _ (by omega), setGo_kvOrd _ hX]
  simp only [Option.bind_some]
  rw [eqPairs_is _ _ (conv_unconv _).symm (by rw [List.length_map]; omega) _ (by rw [List.length_map]; omega)]
  rfl
end Go.Proofs.Ytikhlolhodgegaa.Q
