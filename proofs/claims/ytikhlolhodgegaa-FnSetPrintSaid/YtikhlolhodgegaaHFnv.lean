/- Sums of 64 bits by FNV-1a: what the library's hashAdd and the reference's fnv compute, as one fold over bytes. -/
import Derived.Test.YtikhlolhodgegaaHKinds
import Derived.Test.YtikhlolhodgegaaQmodelhashAdd
import Derived.Test.YtikhlolhodgegaaQmodelhashAddByte
import Derived.Test.YtikhlolhodgegaaQmodelhashNew
import Derived.Test.YtikhlolhodgegaaQspecfnv
set_option linter.unusedVariables false
set_option linter.unusedSimpArgs false
namespace Go.Proofs.Ytikhlolhodgegaa.Q
open Go.RowKit Go.Proofs.YtikhlolhodgegaaW.PrintWords Go.Proofs.YtikhlolhodgegaaW.PrintLast Go.Proofs.YtikhlolhodgegaaW.PrintMore

/-- One byte more. -/
def fnvB (h b : Int) : Int := IntKind.u64.wrap ((Go.bits .xor .u64 h (IntKind.u64.wrap b)) * 1099511628211)
def fnvL (h : Int) (l : List UInt8) : Int := l.foldl (fun h b => fnvB h (b.toNat : Int)) h
def fnvS (h : Int) (s : ByteArray) : Int := fnvL h s.data.toList
theorem bt_list (s : ByteArray) (n : Nat) (h : n < s.size) : s.data.toList.drop n = (s[n]'h) :: s.data.toList.drop (n + 1) := by
  have h' : n < s.data.toList.length := by simpa using h
  rw [List.drop_eq_getElem_cons h']
  rfl
theorem bt_nat' (s : ByteArray) (n : Nat) (h : n < s.size) : bt s (n : Int) = ((s[n]'h).toNat : Int) := by
  have := (bt_at s (n : Int)) (by simpa using h)
  rw [← this]; simp
theorem hashAdd_from (s : ByteArray) (hs : s.size ≤ 9223372036854775807) (d : Nat) : ∀ (n k : Nat) (h : Int), n + d = s.size → d < k → model_hashAdd.l0 k h s n = some (fnvL h (s.data.toList.drop n)) := by
  induction d with
  | zero =>
    intro n k h hn hk
    obtain ⟨k, rfl⟩ : ∃ m, k = m + 1 := ⟨k - 1, by omega⟩
    simp only [model_hashAdd.l0]
    rw [if_neg (by omega), List.drop_of_length_le (by simp; omega)]
    rfl
  | succ d ih =>
    intro n k h hn hk
    obtain ⟨k, rfl⟩ : ∃ m, k = m + 1 := ⟨k - 1, by omega⟩
    simp only [model_hashAdd.l0]
    have e : wrap64 ((n : Int) + 1) = ((n + 1 : Nat) : Int) := by unfold wrap64; omega
    rw [if_pos (by omega), if_pos (by omega), e, ih (n + 1) k _ (by omega) (by omega), bt_list s n (by omega), bt_nat' s n (by omega)]
    rfl
theorem hashAdd_is (h : Int) (s : ByteArray) (hs : s.size ≤ 9223372036854775807) : model_hashAdd.f (s.size + 1) h s = some (fnvS h s) := by
  have := hashAdd_from s hs s.size 0 (s.size + 1) h (by omega) (by omega)
  simpa [model_hashAdd.f, fnvS] using this
theorem fnv_from (s : ByteArray) (hs : s.size ≤ 9223372036854775807) (d : Nat) : ∀ (n k : Nat) (h : Int), n + d = s.size → d < k → spec_fnv.l0 k h s (s.size : Int) n = some (fnvL h (s.data.toList.drop n)) := by
  induction d with
  | zero =>
    intro n k h hn hk
    obtain ⟨k, rfl⟩ : ∃ m, k = m + 1 := ⟨k - 1, by omega⟩
    simp only [spec_fnv.l0]
    rw [if_neg (by omega), List.drop_of_length_le (by simp; omega)]
    rfl
  | succ d ih =>
    intro n k h hn hk
    obtain ⟨k, rfl⟩ : ∃ m, k = m + 1 := ⟨k - 1, by omega⟩
    simp only [spec_fnv.l0]
    have e : wrap64 ((n : Int) + 1) = ((n + 1 : Nat) : Int) := by unfold wrap64; omega
    rw [if_pos (by omega), if_pos (by omega), if_pos (by omega), e, ih (n + 1) k _ (by omega) (by omega), bt_list s n (by omega), bt_nat' s n (by omega)]
    rfl
theorem fnv_is (k : Nat) (h : Int) (s : ByteArray) (hs : s.size ≤ 9223372036854775807) (hk : s.size < k) : spec_fnv.f k h s = some (fnvS h s) := by
  have := fnv_from s hs s.size 0 k h (by omega) (by omega)
  simpa [spec_fnv.f, fnvS] using this
theorem hashAddByte_is (h b : Int) : model_hashAddByte.f h b = some (fnvB h b) := rfl
theorem fnv_sep (h : Int) : fnvS h (⟨#[255]⟩ : ByteArray) = fnvB h 255 := rfl
end Go.Proofs.Ytikhlolhodgegaa.Q
