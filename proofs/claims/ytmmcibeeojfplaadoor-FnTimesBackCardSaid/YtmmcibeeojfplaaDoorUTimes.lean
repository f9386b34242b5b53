/- Plain words: minutes of a day as texts. No condition. -/
import Derived.Test.YtmmcibeeojfplaaDoorUSplit
import Derived.Test.YtmmcibeeojfplaaDoorHSAtoi
import Derived.Test.YtmmcibeeojfplaaDoorQtimeintervalzzValidTime
set_option linter.unusedVariables false
set_option linter.unusedSimpArgs false
namespace Go.Proofs.YtmmcibeeojfplaaDoor.Q
open Go.RowKit Go.Lib Go.Proofs.YtmmcibeeojfplaaDoorW.PrintWords Go.Proofs.YtmmcibeeojfplaaDoorW.PrintLast Go.Proofs.YtmmcibeeojfplaaDoorW.PrintMore
def hhS (n : Nat) : ByteArray := ⟨#[UInt8.ofNat (48 + n / 60 / 10), UInt8.ofNat (48 + n / 60 % 10)]⟩
def mmS (n : Nat) : ByteArray := ⟨#[UInt8.ofNat (48 + n % 60 / 10), UInt8.ofNat (48 + n % 60 % 10)]⟩
/-- A minute of the day as HH:MM. -/
def timeS (n : Nat) : ByteArray := ⟨#[UInt8.ofNat (48 + n / 60 / 10), UInt8.ofNat (48 + n / 60 % 10), 58, UInt8.ofNat (48 + n % 60 / 10), UInt8.ofNat (48 + n % 60 % 10)]⟩
theorem valid_all : ∀ n : Fin 1441, timeinterval_zzValidTime.f 2 (timeS n.val) = some true := by decide +kernel
theorem split_all : ∀ n : Fin 1441, splitG (timeS n.val).data.toList = [(hhS n.val).data.toList, (mmS n.val).data.toList] := by decide +kernel
theorem hh_all : ∀ n : Fin 1441, Lib.atoiAll (hhS n.val).data.toList = .ok ((n.val / 60 : Nat) : Int) := by decide +kernel
theorem mm_all : ∀ n : Fin 1441, Lib.atoiAll (mmS n.val).data.toList = .ok ((n.val % 60 : Nat) : Int) := by decide +kernel
theorem split_time (n : Nat) (h : n ≤ 1440) : splitB (timeS n) = [hhS n, mmS n] := by
  unfold splitB
  rw [split_all ⟨n, by omega⟩, List.map_cons, List.map_cons, bOf_data, bOf_data]
  rfl
def twoS (n : Nat) : ByteArray := ⟨#[UInt8.ofNat (48 + n / 10), UInt8.ofNat (48 + n % 10)]⟩
theorem dec_small : ∀ n : Fin 10, Lib.decDigits n.val = [UInt8.ofNat (48 + n.val)] ∧ twoS n.val = ⟨#[48]⟩ ++ ⟨[UInt8.ofNat (48 + n.val)].toArray⟩ := by decide +kernel
theorem dec_big : ∀ n : Fin 100, 10 ≤ n.val → (Lib.decDigits n.val).length = 2 ∧ (⟨(Lib.decDigits n.val).toArray⟩ : ByteArray) = twoS n.val := by decide +kernel
end Go.Proofs.YtmmcibeeojfplaaDoor.Q
