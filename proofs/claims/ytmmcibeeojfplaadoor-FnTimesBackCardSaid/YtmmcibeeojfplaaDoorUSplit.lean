/- Plain words: a text cut at its colons. No condition. -/
import Derived.Test.YtmmcibeeojfplaaDoorUDur
import Derived.Test.YtmmcibeeojfplaaDoorQtimeintervalzzIndex
set_option linter.unusedVariables false
set_option linter.unusedSimpArgs false
namespace Go.Proofs.YtmmcibeeojfplaaDoor.Q
open Go.RowKit Go.Proofs.YtmmcibeeojfplaaDoorW.PrintWords Go.Proofs.YtmmcibeeojfplaaDoorW.PrintLast Go.Proofs.YtmmcibeeojfplaaDoorW.PrintMore
def splitG : List UInt8 → List (List UInt8)
  | [] => [[]]
  | c :: l => if c = 58 then [] :: splitG l else match splitG l with
    | [] => [[c]]
    | h :: t => (c :: h) :: t
def isC (c : UInt8) : Bool := c != 58
theorem splitG_end : ∀ (l : List UInt8), spanN isC l = l.length → splitG l = [l]
  | [], _ => rfl
  | c :: l, h => by
    rw [spanN_cons] at h
    by_cases hc : isC c = true
    · rw [if_pos hc] at h
      have ih := splitG_end l (by simpa using h)
      have hc2 : c ≠ 58 := by simpa [isC] using hc
      simp only [splitG]
      rw [if_neg hc2, ih]
    · rw [if_neg hc] at h
      simp at h
theorem splitG_cut : ∀ (l : List UInt8), spanN isC l < l.length → splitG l = l.take (spanN isC l) :: splitG (l.drop (spanN isC l + 1))
  | [], h => by simp at h
  | c :: l, h => by
    by_cases hc : isC c = true
    · have e : spanN isC (c :: l) = spanN isC l + 1 := by rw [spanN_cons, if_pos hc]
      have ih := splitG_cut l (by rw [e] at h; simpa using h)
      have hc2 : c ≠ 58 := by simpa [isC] using hc
      rw [e]
      simp only [splitG]
      rw [if_neg hc2, ih]
      rfl
    · have e : spanN isC (c :: l) = 0 := by rw [spanN_cons, if_neg hc]
      have hc2 : c = 58 := by simpa [isC] using hc
      rw [e]
      simp only [splitG]
      rw [if_pos hc2]
      rfl
def bOf (l : List UInt8) : ByteArray := ⟨l.toArray⟩
theorem bOf_list (l : List UInt8) : (bOf l).data.toList = l := rfl
theorem bOf_data (s : ByteArray) : bOf s.data.toList = s := by cases s; simp [bOf]
def splitB (s : ByteArray) : List ByteArray := (splitG s.data.toList).map bOf
def nC (t : ByteArray) : Nat := spanN isC t.data.toList
theorem lenS (s : ByteArray) : s.data.toList.length = s.size := Array.length_toList
theorem nC_le (t : ByteArray) : nC t ≤ t.size := by rw [← lenS]; exact spanN_le _ _
theorem exS_take (s : ByteArray) (i : Nat) : (s.extract 0 i).data.toList = s.data.toList.take i := by
  rw [ByteArray.data_extract, Array.toList_extract]
  simp [List.extract_eq_take_drop]
theorem exS_drop (s : ByteArray) (i : Nat) : (s.extract i s.size).data.toList = s.data.toList.drop i := by
  rw [ByteArray.data_extract, Array.toList_extract]
  simp only [List.extract_eq_take_drop]
  rw [List.take_of_length_le]
  rw [List.length_drop, Array.length_toList]
  exact Nat.le_refl _
theorem splitB_end (t : ByteArray) (h : nC t = t.size) : splitB t = [t] := by
  unfold splitB
  rw [splitG_end _ (by rw [lenS]; exact h)]
  show [bOf _] = _
  rw [bOf_data]
theorem splitB_cut (t : ByteArray) (h : nC t < t.size) : splitB t = t.extract 0 (nC t) :: splitB (t.extract (nC t + 1) t.size) := by
  unfold splitB
  rw [splitG_cut _ (by rw [lenS]; exact h), exS_drop, List.map_cons]
  congr 1
  rw [← bOf_data (t.extract 0 (nC t)), exS_take]
  rfl
theorem ex_one (t : ByteArray) (i : Nat) (h : i < t.size) : (t.extract i (i + 1)).toList = [t.data.toList[i]'(by rw [lenS]; exact h)] := by
  rw [ByteArray.toList_eq, ByteArray.data_extract, Array.toList_extract, List.extract_eq_take_drop, List.drop_eq_getElem_cons (by rw [lenS]; exact h)]
  have e : i + 1 - i = 0 + 1 := by omega
  rw [e, List.take_succ_cons, List.take_zero]
theorem index_from (t : ByteArray) (ht : t.size ≤ 100000) : ∀ (d i k : Nat), i + d = nC t → d + 1 < k → timeinterval_zzIndex.l0 k t ⟨#[58]⟩ (i : Int) = some (if nC t < t.size then (nC t : Int) else -1)
  | 0, i, k, hi, hk => by
    obtain ⟨k, rfl⟩ : ∃ j, k = j + 1 := ⟨k - 1, by omega⟩
    have hle := nC_le t
    obtain rfl : i = nC t := by omega
    have e1 : wrap64 ((nC t : Int) + ((⟨#[58]⟩ : ByteArray).size : Int)) = ((nC t + 1 : Nat) : Int) := by
      show wrap64 ((nC t : Int) + 1) = _
      unfold wrap64; omega
    simp only [timeinterval_zzIndex.l0, e1]
    by_cases h : nC t < t.size
    · have h58 : t.data.toList[nC t]'(by rw [lenS]; exact h) = 58 := by
        have h2 := spanN_at isC t.data.toList (by rw [lenS]; exact h)
        have h3 : isC (t.data.toList[nC t]'(by rw [lenS]; exact h)) = false := h2
        unfold isC at h3
        exact bne_eq_false_iff_eq.1 h3
      rw [if_pos (by omega), if_pos (by omega), if_pos (by omega), Int.toNat_natCast, Int.toNat_natCast, ex_one t _ h, h58, if_pos (by rw [ByteArray.toList_eq]), if_pos h]
    · rw [if_neg (by omega), if_neg h]
  | d + 1, i, k, hi, hk => by
    obtain ⟨k, rfl⟩ : ∃ j, k = j + 1 := ⟨k - 1, by omega⟩
    have hle := nC_le t
    have h : i < t.size := by omega
    have e1 : wrap64 ((i : Int) + ((⟨#[58]⟩ : ByteArray).size : Int)) = ((i + 1 : Nat) : Int) := by
      show wrap64 ((i : Int) + 1) = _
      unfold wrap64; omega
    have e2 : wrap64 ((i : Int) + 1) = ((i + 1 : Nat) : Int) := e1
    have h58 : t.data.toList[i]'(by rw [lenS]; exact h) ≠ 58 := by
      have h2 := spanN_lt isC t.data.toList i (by show i < nC t; omega)
      unfold isC at h2
      exact bne_iff_ne.1 h2
    have ih := index_from t ht d (i + 1) k (by omega) (by omega)
    simp only [timeinterval_zzIndex.l0, e1]
    rw [if_pos (by omega), if_pos (by omega), if_pos (by omega), Int.toNat_natCast, Int.toNat_natCast, ex_one t _ h, if_neg (fun e => h58 (by
      rw [ByteArray.toList_eq] at e
      have e' : [t.data.toList[i]'(by rw [lenS]; exact h)] = [58] := e
      injection e')), e2]
    exact ih
theorem index_is (t : ByteArray) (ht : t.size ≤ 100000) : timeinterval_zzIndex.f (nC t + 2) t ⟨#[58]⟩ = some (if nC t < t.size then (nC t : Int) else -1) := by
  unfold timeinterval_zzIndex.f
  exact index_from t ht (nC t) 0 _ (by omega) (by omega)
end Go.Proofs.YtmmcibeeojfplaaDoor.Q
