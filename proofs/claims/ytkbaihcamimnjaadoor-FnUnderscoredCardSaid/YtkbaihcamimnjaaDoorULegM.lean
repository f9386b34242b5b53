/- Names that were valid ahead of UTF-8: the reference's function comes to what the library's comes to. No condition. -/
import Derived.Test.YtkbaihcamimnjaaDoorHLegM
import Derived.Test.YtkbaihcamimnjaaDoorQspecLegacyMetric
set_option linter.unusedVariables false
set_option linter.unusedSimpArgs false
namespace Go.Proofs.YtkbaihcamimnjaaDoor.Q
open Go.RowKit Go.Proofs.YtkbaihcamimnjaaDoorW.PrintWords Go.Proofs.YtkbaihcamimnjaaDoorW.PrintLast Go.Proofs.YtkbaihcamimnjaaDoorW.PrintMore
theorem legC_iff (colon : Bool) (c i : Int) : legC colon c i = true ↔ (97 ≤ c ∧ c ≤ 122 ∨ 65 ≤ c ∧ c ≤ 90 ∨ c = 95 ∨ (colon = true ∧ c = 58) ∨ (48 ≤ c ∧ c ≤ 57 ∧ 0 < i)) := by simp [legC]
theorem legC_false (colon : Bool) (c i : Int) : legC colon c i = false ↔ ¬ (97 ≤ c ∧ c ≤ 122 ∨ 65 ≤ c ∧ c ≤ 90 ∨ c = 95 ∨ (colon = true ∧ c = 58) ∨ (48 ≤ c ∧ c ≤ 57 ∧ 0 < i)) := by
  rw [← legC_iff]; simp
theorem legB_empty (colon : Bool) (s : ByteArray) (h : s.size = 0) : legB colon s = false := by simp [legB, h]
/-- A loop that goes on just as long as the characters may stand there tells what legB tells. -/
theorem leg_loop (colon : Bool) (s : ByteArray) (hs : s.size ≤ 9223372036854775807) (L : Nat → Int → Option Bool)
    (hend : ∀ k, L (k + 1) (s.size : Int) = some (decide ((s.size : Int) > 0)))
    (hgo : ∀ k (n : Nat), n < s.size → L (k + 1) (n : Int) = if legC colon (bt s n) n = true then L k (wrap64 ((n : Int) + 1)) else some false)
    (d : Nat) : ∀ (n k : Nat), n + d = s.size → d < k → (∀ i, i < n → legC colon (bt s i) i = true) → L k (n : Int) = some (legB colon s) := by
  induction d with
  | zero =>
    intro n k hn hk hall
    obtain ⟨k, rfl⟩ : ∃ m, k = m + 1 := ⟨k - 1, by omega⟩
    have e : n = s.size := by omega
    subst e
    rw [hend]
    rcases Nat.eq_zero_or_pos s.size with h0 | h0
    · rw [legB_empty colon s h0]; simp [h0]
    · rw [legB_of h0 hall]; simp [h0]
  | succ d ih =>
    intro n k hn hk hall
    obtain ⟨k, rfl⟩ : ∃ m, k = m + 1 := ⟨k - 1, by omega⟩
    rw [hgo k n (by omega)]
    cases hc : legC colon (bt s n) n
    · rw [if_neg (by simp), legB_not (by omega) hc]
    · have e : wrap64 ((n : Int) + 1) = ((n + 1 : Nat) : Int) := by unfold wrap64; omega
      rw [if_pos rfl, e, ih (n + 1) k (by omega) (by omega) (upto_succ hall hc)]
def letterB (c : Int) : Bool := decide (97 ≤ c ∧ c ≤ 122 ∨ 65 ≤ c ∧ c ≤ 90 ∨ c = 95)
theorem letter_is (c : Int) : spec_letter.f c = some (letterB c) := by
  unfold spec_letter.f letterB
  repeat' split
  all_goals
    congr 1
    refine Bool.eq_iff_iff.2 ?_
    simp
    try omega
def digitB (c : Int) : Bool := decide (48 ≤ c ∧ c ≤ 57)
theorem digit_is (c : Int) : spec_digit.f c = some (digitB c) := by
  unfold spec_digit.f digitB
  repeat' split
  all_goals
    congr 1
    refine Bool.eq_iff_iff.2 ?_
    simp
    try omega
theorem specMetric_is (s : ByteArray) (hs : s.size ≤ 9223372036854775807) (k : Nat) (hk : s.size < k) : spec_LegacyMetric.f k s = some (legB true s) := by
  refine leg_loop true s hs (fun k x => spec_LegacyMetric.l0 k s x) ?_ ?_ s.size 0 k (by omega) hk (fun i hi => by omega)
  · intro k
    simp only [spec_LegacyMetric.l0]
    rw [if_neg (by omega)]
  · intro k n hn
    simp only [spec_LegacyMetric.l0, letter_is, digit_is, Option.bind_some]
    rw [if_pos (by omega), if_pos (by omega)]
    generalize bt s n = c
    generalize spec_LegacyMetric.l0 k s (wrap64 ((n : Int) + 1)) = R
    by_cases h1 : 97 ≤ c ∧ c ≤ 122 ∨ 65 ≤ c ∧ c ≤ 90 ∨ c = 95
    · rw [if_pos (by simp [letterB]; omega), if_pos ((legC_iff _ _ _).2 (by omega))]
    · rw [if_neg (by simp [letterB]; omega)]
      by_cases h2 : c = 58
      · rw [if_pos h2, if_pos ((legC_iff _ _ _).2 (by simp [h2]))]
      · rw [if_neg h2]
        by_cases h3 : 48 ≤ c ∧ c ≤ 57 ∧ 0 < (n : Int)
        · rw [if_neg (by omega), if_pos (by simp [digitB]; omega), if_pos ((legC_iff _ _ _).2 (by omega))]
        · have hf : legC true c n = false := (legC_false _ _ _).2 (by simp; omega)
          rw [hf]
          by_cases h4 : (n : Int) = 0
          · rw [if_pos h4]; rfl
          · rw [if_neg h4, if_neg (by simp [digitB]; omega)]; rfl
end Go.Proofs.YtkbaihcamimnjaaDoor.Q
