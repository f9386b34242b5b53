/- FnUnescapeStays in plain Lean: what is no escape of values stays. -/
import Derived.Test.YtkbaihcamimnjaaQlawsFnUnescapeStays
import Derived.Lib.AppendStr
set_option linter.unusedVariables false
set_option linter.unusedSimpArgs false
namespace Go.Proofs.Ytkbaihcamimnjaa.Q
open Go.RowKit Go.Proofs.YtkbaihcamimnjaaW.PrintWords Go.Proofs.YtkbaihcamimnjaaW.PrintLast Go.Proofs.YtkbaihcamimnjaaW.PrintMore
theorem unesc_U : impl_Unescape.f (⟨#[85, 95, 95, 97, 95, 50, 101, 95, 98]⟩ : ByteArray) 3 = some cA := by
  unfold impl_Unescape.f
  have h1 : (⟨#[85, 95, 95, 97, 95, 50, 101, 95, 98]⟩ : ByteArray) = cU := rfl
  have h2 : cU.size = 9 := rfl
  have h3 : isU cU = true := by kernel_rfl
  rw [h1, h2, if_neg (by omega), if_neg (by decide), if_neg (by decide), if_pos rfl, if_pos h3, if_pos rfl]
theorem unesc_k (s : ByteArray) (k : Int) (hk : k = 0 ∨ k = 1) : impl_Unescape.f s k = some s := by
  unfold impl_Unescape.f
  by_cases h0 : s.size = 0
  · rw [if_pos h0]
  · rw [if_neg h0]
    rcases hk with rfl | rfl
    · rw [if_pos rfl]
    · rw [if_neg (by decide), if_pos rfl]
theorem unesc_3 (s : ByteArray) (h : isU s = false) : impl_Unescape.f s 3 = some s := by
  unfold impl_Unescape.f
  by_cases h0 : s.size = 0
  · rw [if_pos h0]
  · rw [if_neg h0, if_neg (by decide), if_neg (by decide), if_pos rfl, h, if_neg (by simp)]
theorem laws_FnUnescapeStays.pure : ∀ (a0 : ByteArray) (a1 : Int), a0.size ≤ 140737488351232 → (Lit.int .u8 a1).wf = true → ∃ k, laws_FnUnescapeStays.f k a0 a1 = some true := by
  intro a0 a1 _ hw
  refine ⟨0 + 1, ?_⟩
  have hwf : 0 ≤ a1 ∧ a1 ≤ 255 := by
    have : (Lit.int .u8 a1).wf = true := hw
    have e1 : IntKind.u8.min = 0 := rfl
    have e2 : IntKind.u8.max = 255 := rfl
    simp only [Lit.wf, Bool.and_eq_true, decide_eq_true_eq, e1, e2] at this
    exact this
  unfold laws_FnUnescapeStays.f
  by_cases h0 : (a0.size : Int) > 2147483647
  · rw [if_pos h0]
  rw [if_neg h0, unesc_U]
  have hA : cA.toList = ([97, 46, 98] : List UInt8) := by rw [Lib.toList_data]; rfl
  simp only [Option.bind_some, hA, if_true]
  by_cases h5 : (a0.size : Int) > 5000
  · rw [if_pos h5]
    simp only [laws_FnUnescapeStays.j0]
    simp [h5]
  rw [if_neg h5]
  have hk : wrap64 (Int.tmod a1 2) = 0 ∨ wrap64 (Int.tmod a1 2) = 1 := by
    have h1 : Int.tmod a1 2 = a1 % 2 := Int.tmod_eq_emod_of_nonneg hwf.1
    rw [h1]
    unfold wrap64
    omega
  rw [unesc_k a0 _ hk]
  simp only [Option.bind_some]
  have e : (a0.toList != a0.toList) = false := by simp
  rw [e]
  simp only [laws_FnUnescapeStays.j0, Bool.false_eq_true, if_false]
  by_cases h3 : (a0.size : Int) ≥ 3
  · rw [if_pos h3, if_pos (by omega), if_pos (by omega)]
    by_cases h4 : (a0.extract 0 3).toList = ([85, 95, 95] : List UInt8)
    · rw [if_pos h4]
    · have hu : isU a0 = false := by
        unfold isU
        have : ((a0.extract 0 3).toList == [85, 95, 95]) = false := beq_eq_false_iff_ne.2 h4
        rw [this, Bool.and_false]
      rw [if_neg h4, unesc_3 a0 hu]
      simp
  · have hu : isU a0 = false := by
      unfold isU
      rw [decide_eq_false (by omega), Bool.false_and]
    rw [if_neg h3, unesc_3 a0 hu]
    simp
end Go.Proofs.Ytkbaihcamimnjaa.Q
