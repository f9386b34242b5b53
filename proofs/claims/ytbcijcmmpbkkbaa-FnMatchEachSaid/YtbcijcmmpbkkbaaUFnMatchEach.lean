/- A list of matchers is fulfilled exactly if each of them is fulfilled by itself: the law FnMatchEach over the functions that the program comes to, for every input. No condition. -/
import Derived.Test.YtbcijcmmpbkkbaaUFits
import Derived.Test.YtbcijcmmpbkkbaaQlawsFnMatchEach
namespace Go.Proofs.Ytbcijcmmpbkkbaa.Q
open Go.RowKit Go.Proofs.YtbcijcmmpbkkbaaW.PrintWords Go.Proofs.YtbcijcmmpbkkbaaW.PrintLast Go.Proofs.YtbcijcmmpbkkbaaW.PrintMore
theorem shortOfFits {l : List S26} (h : fitsPs l = true) : shortPairs l := by
  simp [fitsPs, fitsP] at h
  intro p hp
  have := h.2 p hp
  omega
theorem plainOf {l : List S30} (h : fitsMs l = true) (ht : l.all typeM = true) : ∀ m ∈ l, plainM m := by
  simp [fitsMs, fitsM] at h
  intro m hm
  have h1 := h.2 m hm
  have h2 := List.all_eq_true.1 ht m hm
  simp [typeM] at h2
  exact ⟨h2, by omega⟩
theorem matchAll_of {l : List S30} {s : List S26} (hl : l.length ≤ 10000000000) (hs : s.length ≤ 10000000000) (h1 : shortPairs s) (h2 : ∀ m ∈ l, plainM m) : impl_MatchAll.f l s = some (matchAllD l (mset s)) := if_pos ⟨hl, hs, h1, h2⟩
theorem matchAll_none (s : List S26) (hs : s.length ≤ 10000000000) (h1 : shortPairs s) : impl_MatchAll.f [] s = some true := matchAll_of (by simp) hs h1 (by simp)
theorem take_drop_one {α : Type} (l : List α) (n : Nat) (h : n < l.length) : (l.take (n + 1)).drop n = [l[n]] := by
  rw [List.take_succ_eq_append_getElem h, List.drop_append_of_le_length (by simp; omega), List.drop_of_length_le (by simp; omega)]
  rfl
theorem each_loop (l : List S30) (s : List S26) (hl : l.length ≤ 10000) (hs : s.length ≤ 10000) (h1 : shortPairs s) (h2 : ∀ m ∈ l, plainM m) (d : Nat) :
    ∀ (n k : Nat), n + d = l.length → d < k → laws_FnMatchEach.l0 k l s (matchAllD (l.take n) (mset s)) (l.length : Int) n = some true := by
  induction d with
  | zero =>
    intro n k hn hk
    obtain ⟨k, rfl⟩ : ∃ m, k = m + 1 := ⟨k - 1, by omega⟩
    have en : n = l.length := by omega
    subst en
    simp only [laws_FnMatchEach.l0]
    rw [if_neg (by omega), matchAll_of (by omega) (by omega) h1 h2, List.take_length]
    simp only [Option.bind_some, BEq.rfl, if_true]
    rw [matchAll_none [] (by simp) (by simp [shortPairs])]
    rfl
  | succ d ih =>
    intro n k hn hk
    obtain ⟨k, rfl⟩ : ∃ m, k = m + 1 := ⟨k - 1, by omega⟩
    have hlt : n < l.length := by omega
    have hw := wrap_step (m := l.length) hlt (by omega)
    have ht : matchAllD (l.take (n + 1)) (mset s) = (matchAllD (l.take n) (mset s) && matchAllD [l[n]] (mset s)) := by
      unfold matchAllD
      rw [List.take_succ_eq_append_getElem hlt, List.all_append]
    have hi := ih (n + 1) k (by omega) (by omega)
    rw [ht] at hi
    simp only [laws_FnMatchEach.l0]
    rw [if_pos (by omega), hw]
    cases hb : matchAllD (l.take n) (mset s)
    · rw [if_neg (by simp)]
      rw [hb, Bool.false_and] at hi
      exact hi
    · rw [hb, Bool.true_and] at hi
      rw [if_pos rfl, if_pos (by omega), if_pos (by omega), if_pos (by omega)]
      have e1 : ((n + 1 : Nat) : Int).toNat = n + 1 := by omega
      have e2 : (n : Int).toNat = n := by omega
      rw [e1, e2, take_drop_one l n hlt, matchAll_of (by simp) (by omega) h1 (by simpa using h2 _ (List.getElem_mem hlt))]
      exact hi
theorem laws_FnMatchEach.pure : ∀ (l0 : List S30) (l1 : List S26), l0.length ≤ 9223372036854775807 → l1.length ≤ 9223372036854775807 → ∃ k, laws_FnMatchEach.f k l0 l1 = some true := by
  intro l s hl0 hs0
  refine ⟨l.length + s.length + 5, ?_⟩
  have ej : laws_FnMatchEach.j0 (l.length + s.length + 5) l s true = some true := by simp only [laws_FnMatchEach.j0, if_true]
  unfold laws_FnMatchEach.f
  rw [fits3_is l _ (by omega)]
  simp only [Option.bind_some]
  cases hf : fitsMs l
  · rw [if_neg (by simp)]; exact ej
  · rw [if_pos rfl, fits1_is s _ (by omega)]
    simp only [Option.bind_some]
    cases hg : fitsPs s
    · exact ej
    · simp only [Bool.not_true, laws_FnMatchEach.j0]
      rw [if_neg (by simp), values_is l hl0 _ (by omega)]
      simp only [Option.bind_some]
      have en := matchAll_none [] (by simp) (by simp [shortPairs])
      have ej1 : laws_FnMatchEach.j1 (l.length + s.length + 4) l s true = some true := by simp only [laws_FnMatchEach.j1, if_true, en]; rfl
      cases hv : (l.all typeM && decide (l.length ≤ 10000))
      · rw [if_neg (by simp)]; exact ej1
      · rw [if_pos rfl]
        simp at hv
        by_cases hsl : (s.length : Int) > 10000
        · rw [decide_eq_true hsl]; exact ej1
        · rw [decide_eq_false hsl]
          simp only [laws_FnMatchEach.j1]
          rw [if_neg (by simp)]
          have := each_loop l s hv.2 (by omega) (shortOfFits hg) (plainOf hf (by simpa using hv.1)) l.length 0 (l.length + s.length + 3) (by omega) (by omega)
          simpa [matchAllD] using this
end Go.Proofs.Ytbcijcmmpbkkbaa.Q
