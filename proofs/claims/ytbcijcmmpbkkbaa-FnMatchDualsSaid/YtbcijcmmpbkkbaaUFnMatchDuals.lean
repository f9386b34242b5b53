/- A matcher and its dual: the law FnMatchDuals over the functions that the program comes to, for every input. No condition. -/
import Derived.Test.YtbcijcmmpbkkbaaUFits
import Derived.Test.YtbcijcmmpbkkbaaQlawsFnMatchDuals
namespace Go.Proofs.Ytbcijcmmpbkkbaa.Q
open Go.RowKit Go.Proofs.YtbcijcmmpbkkbaaW.PrintWords Go.Proofs.YtbcijcmmpbkkbaaW.PrintLast Go.Proofs.YtbcijcmmpbkkbaaW.PrintMore
theorem shortOfF {l : List S26} (h : fitsPs l = true) : shortPairs l := by
  simp [fitsPs, fitsP] at h
  intro p hp
  have := h.2 p hp
  omega
theorem laws_FnMatchDuals.pure : ∀ (a0 : ByteArray) (a1 : ByteArray) (l2 : List S26), a0.size ≤ 140737488351232 → a1.size ≤ 140737488351232 → l2.length ≤ 9223372036854775807 → ∃ k, laws_FnMatchDuals.f k a0 a1 l2 = some true := by
  intro a b l ha hb hl
  refine ⟨l.length + 5, ?_⟩
  have jt : laws_FnMatchDuals.j0 (l.length + 5) a b l true = some true := by simp only [laws_FnMatchDuals.j0, if_true]
  unfold laws_FnMatchDuals.f
  by_cases h1 : (a.size : Int) > 2147483647
  · rw [if_pos h1]; exact jt
  rw [if_neg h1]
  by_cases h2 : (b.size : Int) > 2147483647
  · rw [if_pos h2]; exact jt
  rw [if_neg h2, fits1_is l _ (by omega)]
  simp only [Option.bind_some]
  cases hf : fitsPs l
  · exact jt
  · simp only [Bool.not_true, laws_FnMatchDuals.j0]
    rw [if_neg (by simp)]
    by_cases h3 : (l.length : Int) > 10000
    · rw [if_pos h3]
    rw [if_neg h3]
    have hs := shortOfF hf
    have p0 : plainM ⟨0, a, b⟩ := ⟨.inl rfl, by simp only; omega⟩
    have p1 : plainM ⟨1, a, b⟩ := ⟨.inr rfl, by simp only; omega⟩
    have all_of : ∀ m : List S30, m.length ≤ 10 → (∀ x ∈ m, plainM x) → impl_MatchAll.f m l = some (matchAllD m (mset l)) := fun m hm hp => if_pos ⟨by omega, by omega, hs, hp⟩
    have any_of : impl_MatchAny.f ([[⟨0, a, b⟩], [⟨1, a, b⟩]] : List (List S30)) l = some (matchAnyD [[⟨0, a, b⟩], [⟨1, a, b⟩]] (mset l)) :=
      if_pos ⟨by simp, by omega, hs, by
        intro x hx
        rcases List.mem_cons.1 hx with rfl | hx
        · exact ⟨by simp, fun m hm => by rw [List.mem_singleton.1 hm]; exact p0⟩
        · rw [List.mem_singleton.1 hx]; exact ⟨by simp, fun m hm => by rw [List.mem_singleton.1 hm]; exact p1⟩⟩
    rw [all_of [⟨0, a, b⟩] (by simp) (fun m hm => by rw [List.mem_singleton.1 hm]; exact p0), all_of [⟨1, a, b⟩] (by simp) (fun m hm => by rw [List.mem_singleton.1 hm]; exact p1),
      all_of [⟨0, a, b⟩, ⟨1, a, b⟩] (by simp) (fun m hm => by
        rcases List.mem_cons.1 hm with rfl | hm
        · exact p0
        · rw [List.mem_singleton.1 hm]; exact p1), any_of]
    simp only [Option.bind_some, matchAllD, matchAnyD, matchesV, List.all_cons, List.all_nil, List.any_cons, List.any_nil, Bool.and_true, Bool.or_false, if_true]
    rw [if_neg (show ¬ ((1 : Int) = 0) by omega)]
    cases hv : ((valD (mset l) a).toList == b.toList) <;> simp
end Go.Proofs.Ytbcijcmmpbkkbaa.Q
