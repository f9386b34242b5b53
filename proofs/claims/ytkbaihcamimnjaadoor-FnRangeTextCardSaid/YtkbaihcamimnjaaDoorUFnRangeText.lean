/- FnRangeText in plain Lean: the reference's decimal numbers are the library's. -/
import Derived.Test.YtkbaihcamimnjaaDoorQlawsFnRangeText
set_option linter.unusedVariables false
set_option linter.unusedSimpArgs false
namespace Go.Proofs.YtkbaihcamimnjaaDoor.Q
open Go.RowKit Go.Proofs.YtkbaihcamimnjaaDoorW.PrintWords Go.Proofs.YtkbaihcamimnjaaDoorW.PrintLast Go.Proofs.YtkbaihcamimnjaaDoorW.PrintMore
theorem digit_str (d : Nat) (h : d < 10) : strOfNums [(IntKind.u64.wrap (48 + (d : Int))) % 256] = ⟨#[UInt8.ofNat (48 + d)]⟩ := by
  have e : IntKind.u64.wrap (48 + (d : Int)) % 256 = ((48 + d : Nat) : Int) := by
    simp [IntKind.wrap, IntKind.bits, IntKind.signed]
    omega
  rw [e]
  simp only [strOfNums, List.map_cons, List.map_nil, Int.toNat_natCast]
theorem digits_is : ∀ (k n : Nat), n < 10 ^ k → n < 18446744073709551616 → spec_digits.f (k + 1) (n : Int) = some ⟨(Lib.decDigits n).toArray⟩
  | 0, n, h, _ => by
    have : n = 0 := by omega
    subst this
    rw [spec_digits.f, if_pos (by omega)]
    have := digit_str 0 (by omega)
    rw [Lib.decDigits, dif_pos (by omega)]
    exact congrArg some this
  | k + 1, n, h, hn => by
    rw [spec_digits.f]
    by_cases h10 : n < 10
    · rw [if_pos (by omega), Lib.decDigits, dif_pos h10, digit_str n h10]
    · have e1 : IntKind.u64.wrap (Int.tdiv (n : Int) 10) = ((n / 10 : Nat) : Int) := by
        rw [Int.tdiv_eq_ediv_of_nonneg (by omega)]
        simp [IntKind.wrap, IntKind.bits, IntKind.signed]
        omega
      have e2 : Int.tmod (n : Int) 10 = ((n % 10 : Nat) : Int) := by rw [Int.tmod_eq_emod_of_nonneg (by omega)]; omega
      have hd : 10 ^ (k + 1) = 10 ^ k * 10 := Nat.pow_succ ..
      rw [if_neg (by omega), e1, digits_is k (n / 10) (by omega) (by omega)]
      have hl : (Lib.decDigits (n / 10)).length ≤ 20 := by rw [Lib.decDigits_length]; exact Lib.nDigits_le20 _ (by omega)
      simp only [Option.bind_some, e2, digit_str (n % 10) (by omega)]
      have hs : (⟨(Lib.decDigits (n / 10)).toArray⟩ : ByteArray).size = (Lib.decDigits (n / 10)).length := by simp [ByteArray.size]
      have hs2 : (⟨#[UInt8.ofNat (48 + n % 10)]⟩ : ByteArray).size = 1 := rfl
      rw [if_pos (by rw [hs, hs2]; omega)]
      congr 1
      rw [Lib.decDigits.eq_def n, dif_neg h10]
      apply ByteArray.ext
      simp
theorem decimal_is (a : Int) (ha : inI a) : spec_decimal.f 21 a = some (itS a) := by
  obtain ⟨h0, h1⟩ := ha
  unfold spec_decimal.f itS Lib.itoa
  by_cases h : a < 0
  · rw [if_pos h, if_pos h]
    have e : IntKind.u64.wrap (-(IntKind.u64.wrap a)) = ((a.natAbs : Nat) : Int) := by
      simp [IntKind.wrap, IntKind.bits, IntKind.signed]
      omega
    rw [e, digits_is 20 a.natAbs (by omega) (by omega)]
    have hl : (Lib.decDigits a.natAbs).length ≤ 20 := by rw [Lib.decDigits_length]; exact Lib.nDigits_le20 _ (by omega)
    have hs : (⟨(Lib.decDigits a.natAbs).toArray⟩ : ByteArray).size = (Lib.decDigits a.natAbs).length := by simp [ByteArray.size]
    simp only [Option.bind_some]
    rw [if_pos (by rw [hs]; omega)]
    congr 1
  · rw [if_neg h, if_neg h]
    have e : IntKind.u64.wrap a = ((a.toNat : Nat) : Int) := by
      simp [IntKind.wrap, IntKind.bits, IntKind.signed]
      omega
    rw [e, digits_is 20 a.toNat (by omega) (by omega)]
    rfl
theorem laws_FnRangeText.pure : ∀ (a0 : Int) (a1 : Int), (Lit.int .i64 a0).wf = true → (Lit.int .i64 a1).wf = true → ∃ k, laws_FnRangeText.f k a0 a1 = some true := by
  intro a0 a1 hw0 hw1
  have hI : ∀ a : Int, (Lit.int .i64 a).wf = true → inI a := fun a hw => by
    have e1 : IntKind.i64.min = -9223372036854775808 := rfl
    have e2 : IntKind.i64.max = 9223372036854775807 := rfl
    simp only [Lit.wf, Bool.and_eq_true, decide_eq_true_eq, e1, e2] at hw
    exact hw
  have h0 := hI a0 hw0
  have h1 := hI a1 hw1
  refine ⟨21, ?_⟩
  have hs : spec_RangeText.f 21 a0 a1 = some (rangeS a0 a1) := by
    unfold spec_RangeText.f rangeS
    by_cases h : a0 = a1
    · rw [if_pos h, if_pos h, decimal_is a0 h0]; rfl
    · have z0 := itS_size a0 h0
      have z1 := itS_size a1 h1
      rw [if_neg h, if_neg h, decimal_is a0 h0, decimal_is a1 h1]
      simp only [Option.bind_some]
      have z2 : (itS a0 ++ (⟨#[58]⟩ : ByteArray)).size = (itS a0).size + 1 := by rw [ByteArray.size_append]; rfl
      rw [if_pos (by omega), if_pos (by rw [z2]; omega)]
  unfold laws_FnRangeText.f impl_RangeText.f
  rw [if_pos ⟨h0, h1⟩, hs]
  simp
end Go.Proofs.YtkbaihcamimnjaaDoor.Q
