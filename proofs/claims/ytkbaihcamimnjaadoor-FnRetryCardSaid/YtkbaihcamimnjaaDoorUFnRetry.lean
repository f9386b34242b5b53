/- FnRetry in plain Lean. -/
import Derived.Test.YtkbaihcamimnjaaDoorQlawsFnRetry
namespace Go.Proofs.YtkbaihcamimnjaaDoor.Q
open Go.RowKit Go.Proofs.YtkbaihcamimnjaaDoorW.PrintWords Go.Proofs.YtkbaihcamimnjaaDoorW.PrintLast Go.Proofs.YtkbaihcamimnjaaDoorW.PrintMore
theorem specRC_go (a : Int) (l : List Int) (hl : l.length ≤ 10000) : ∀ (d i : Nat) (b : Bool), i + d = l.length → spec_RetryCode.l0 (d + 1) a l b (l.length : Int) (i : Int) = some (b || (l.drop i).contains a, true)
  | 0, i, b, h => by
    simp only [spec_RetryCode.l0]
    rw [if_neg (by omega), List.drop_eq_nil_of_le (by omega)]
    simp
  | d + 1, i, b, h => by
    have hi : i < l.length := by omega
    have hrd : rd l (i : Int) = l[i] := by simp [rd, List.getD_eq_getElem?_getD, List.getElem?_eq_getElem hi]
    have hds : l.drop i = l[i] :: l.drop (i + 1) := List.drop_eq_getElem_cons hi
    have e : wrap64 ((i : Int) + 1) = ((i + 1 : Nat) : Int) := by unfold wrap64; omega
    rw [spec_RetryCode.l0, if_pos (by omega), e]
    cases b
    · rw [if_neg (by simp), if_pos (by omega), if_pos (by omega), hrd, specRC_go a l hl d (i + 1) _ (by omega), hds, List.contains_cons, Bool.false_or]
      have : (l[i] == a) = (a == l[i]) := by
        by_cases hq : a = l[i]
        · rw [← hq]
        · rw [beq_eq_false_iff_ne.2 hq, beq_eq_false_iff_ne.2 (Ne.symm hq)]
      rw [this]
    · rw [if_pos rfl, specRC_go a l hl d (i + 1) _ (by omega)]
      simp
theorem specRC_is (a : Int) (l : List Int) (hl : l.length ≤ 10000) (hlo : -9223372036854775808 ≤ a) (hhi : a ≤ 9223372036854775807) : spec_RetryCode.f (l.length + 3) a l = some (rcV a l) := by
  have hw : wrap64 (Int.tdiv a 100) = Int.tdiv a 100 := by
    unfold wrap64
    have h1 : Int.tdiv a 100 ≤ 9223372036854775807 := by
      rcases Int.lt_or_le a 0 with h | h
      · have : Int.tdiv a 100 ≤ 0 := by rw [← Int.neg_neg a, Int.neg_tdiv]; have := Int.tdiv_nonneg (a := -a) (b := 100) (by omega) (by omega); omega
        omega
      · rw [Int.tdiv_eq_ediv_of_nonneg h]; omega
    have h2 : -9223372036854775808 ≤ Int.tdiv a 100 := by
      rcases Int.lt_or_le a 0 with h | h
      · rw [← Int.neg_neg a, Int.neg_tdiv, Int.tdiv_eq_ediv_of_nonneg (by omega)]; omega
      · have := Int.tdiv_nonneg (a := a) (b := 100) h (by omega); omega
    omega
  have h2 : (Int.tdiv a 100 = 2) ↔ (a ≥ 200 ∧ a ≤ 299) := by
    rcases Int.lt_or_le a 0 with h | h
    · have : Int.tdiv a 100 ≤ 0 := by rw [← Int.neg_neg a, Int.neg_tdiv]; have := Int.tdiv_nonneg (a := -a) (b := 100) (by omega) (by omega); omega
      omega
    · rw [Int.tdiv_eq_ediv_of_nonneg h]; omega
  have h5 : (Int.tdiv a 100 = 5) ↔ (a ≥ 500 ∧ a ≤ 599) := by
    rcases Int.lt_or_le a 0 with h | h
    · have : Int.tdiv a 100 ≤ 0 := by rw [← Int.neg_neg a, Int.neg_tdiv]; have := Int.tdiv_nonneg (a := -a) (b := 100) (by omega) (by omega); omega
      omega
    · rw [Int.tdiv_eq_ediv_of_nonneg h]; omega
  have hj1 : ∀ b, spec_RetryCode.j1 (l.length + 2) a l b = some (b || l.contains a, true) := fun b => by
    rw [spec_RetryCode.j1]
    exact specRC_go a l hl l.length 0 b (by omega)
  have hj0 : spec_RetryCode.j0 (l.length + 3) a l false = some (decide (a ≥ 500 ∧ a ≤ 599) || l.contains a, true) := by
    rw [spec_RetryCode.j0, if_neg (by simp)]
    by_cases h : a ≥ 500
    · rw [if_pos h, hj1]; simp [h]
    · rw [if_neg h, hj1]; simp [h]
  have hjt : spec_RetryCode.j0 (l.length + 3) a l true = some (false, false) := by
    rw [spec_RetryCode.j0, if_pos rfl]
  unfold spec_RetryCode.f rcV
  rw [hw]
  by_cases c2 : Int.tdiv a 100 = 2
  · rw [if_pos c2, if_pos (h2.1 c2).1, decide_eq_true (h2.1 c2).2, hjt]
  · rw [if_neg c2]
    have n2 : ¬ (a ≥ 200 ∧ a ≤ 299) := fun h => c2 (h2.2 h)
    have e5 : decide (Int.tdiv a 100 = 5) = decide (a ≥ 500 ∧ a ≤ 599) := by rw [Bool.eq_iff_iff]; simpa using h5
    rw [e5]
    by_cases h : a ≥ 200
    · rw [if_pos h, decide_eq_false (by omega), hj0]
    · rw [if_neg h, hj0]
theorem laws_FnRetry.pure : ∀ (a0 : Int) (l1 : List Int), (Lit.int .i64 a0).wf = true → l1.length ≤ 9223372036854775807 → ∃ k, laws_FnRetry.f k a0 l1 = some true := by
  intro a0 l1 hw _
  have hwf : -9223372036854775808 ≤ a0 ∧ a0 ≤ 9223372036854775807 := by
    have e1 : IntKind.i64.min = -9223372036854775808 := rfl
    have e2 : IntKind.i64.max = 9223372036854775807 := rfl
    simp only [Lit.wf, Bool.and_eq_true, decide_eq_true_eq, e1, e2] at hw
    exact hw
  refine ⟨l1.length + 3, ?_⟩
  unfold laws_FnRetry.f
  by_cases h0 : (l1.length : Int) > 2147483647
  · rw [if_pos h0]
  rw [if_neg h0]
  by_cases h1 : (l1.length : Int) > 10000
  · rw [if_pos h1]
  rw [if_neg h1]
  have hl : l1.length ≤ 10000 := by omega
  rw [specRC_is a0 l1 hl hwf.1 hwf.2]
  have e1 : impl_RetryCode.f a0 l1 = some (rcV a0 l1) := if_pos hl
  have e2 : impl_RetryCode.f 500 ([] : List Int) = some (true, true) := by
    unfold impl_RetryCode.f
    rw [if_pos (by simp)]
    have h5 : wrap64 (Int.tdiv 500 100) = 5 := by rw [Int.tdiv_eq_ediv_of_nonneg (by omega)]; unfold wrap64; omega
    unfold rcV
    rw [h5, if_neg (by omega)]
    simp
  rw [e1, e2]
  simp
end Go.Proofs.YtkbaihcamimnjaaDoor.Q
